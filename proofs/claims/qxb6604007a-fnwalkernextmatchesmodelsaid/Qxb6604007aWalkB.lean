/-
  THE CLONE.
-/
import Derived.Test.Qxb6604007aWalkA
import Derived.Laws.CopyOwn
import Derived.Lib.SliceRun
namespace Go.Proofs.Qxb6604007a
open Go.ChangeShapes Go.WideShapes Go.ChangeAt Go.RowKit
set_option linter.unusedVariables false

theorem Try.info5 : (Try.prog.info? 5).map (fun i => (i.zero, i.size, i.bytes)) = some (some (.int .u8 0), 1, 1) := by kernel_rfl
theorem Try.size5 : (Try.prog.info? 5).map (·.size) = some 1 := by kernel_rfl

theorem splice_all {α : Type} (L cs : List α) (h : cs.length = L.length) : splice L 0 cs = cs := by
  unfold splice
  rw [List.drop_eq_nil_of_le (by omega)]
  simp

theorem getElem?_map_int (z : List Int) (j : Nat) (v : Value) (h : (z.map (Value.int .u8))[j]? = some v) : j < z.length ∧ v = .int .u8 (z.getD j 0) := by
  rw [List.getElem?_map] at h
  cases hj : z[j]? with
  | none => rw [hj] at h; simp at h
  | some c =>
    rw [hj] at h
    simp at h
    have := (List.getElem?_eq_some_iff.1 hj).1
    refine ⟨this, ?_⟩
    rw [← h]; simp [List.getD, hj]

theorem bytes_of_row (w : World) (g : Nat) (z : List Int) (h : w.heap[g]? = some (.cells (z.map (Value.int .u8)).toArray 5 (0, 0))) : Bytes w (some ⟨g, 0, none⟩) z := by
  refine .inr ⟨g, 0, rfl, fun k hk => ?_⟩
  rw [Nat.zero_add, cell_of_row w g k _ 5 (0, 0) h]
  simp [List.getD, hk]

theorem made_row {w w1 : World} {base g n : Nat} {xs : List Value} (h : w1.ownsRow base 5 1 (.slice (some ⟨g, 0, none⟩) n n) n xs) : ∃ cur : List Value, Hid (w1.heap[g]? = some (.cells cur.toArray 5 (0, 0))) ∧ Hid (cur.length = n) := by
  rcases h.2 with ⟨h, _⟩ | ⟨g', cap, cur, hv, _, hg, _, _, hs, _⟩
  · simp at h
  · simp at hv
    obtain ⟨rfl, rfl⟩ := hv
    exact ⟨cur.toList, by simpa [Hid] using hg, by simpa [Hid] using hs⟩

/-- the source's cells, in a later world -/
theorem src_cells {w w1 : World} {x : Addr} {z : List Int} (hr : Bytes w (some x) z) (hg : w.grownBy w1 none) : 0 < (z.map (Value.int .u8)).length → ∀ j v, (z.map (Value.int .u8))[j]? = some v → w1.cell? (x.add j) = some v := by
  intro _ j v hj
  obtain ⟨hjl, rfl⟩ := getElem?_map_int z j v hj
  rcases hr with rfl | ⟨b, off, hx, hc⟩
  · simp at hjl
  · obtain rfl := Option.some.inj hx
    have h1 := hg.cell (hc j hjl) (by simp)
    rw [Addr.add_lit]
    exact h1

/-- what the clone leaves -/
def Cloned (z : List Int) (w : World) (e : Ending) (w' : World) : Prop :=
  ∃ a', e = .returned (.slice a' z.length z.length) ∧ Bytes w' a' z ∧ (a' = none → z = []) ∧ Below w.heap.size w w'

set_option maxHeartbeats 1000000 in
theorem clone_any (a : Option Addr) (z : List Int) (cap : Nat) (w : World) (hr : Bytes w a z) (hl : z.length ≤ 1048576) (hnil : a = none → z = []) :
    Calls Try.prog 10 #[.slice a z.length cap] w fun e w' => Cloned z w e w' := by
  have q22 : ∀ (w : World) (a : Option Addr) (n c n' c' : Nat), (binOp .eql 22 (.slice a n c) (.slice none n' c')).run Try.prog w = .ok (.bool a.isNone) w := fun w a n c n' c' => Lib.run_eql_slice_nil w _ _ a n c n' c' Try.underlying22
  cases a with
  | none =>
    obtain rfl := hnil rfl
    go_enter Try.func10, Try.ntmps10
    go_wp2
    go_ret
    exact ⟨none, rfl, .inl rfl, fun _ => rfl, Below.refl _ _⟩
  | some x =>
    obtain ⟨n, hn⟩ : ∃ n, n = z.length := ⟨_, rfl⟩
    rw [← hn] at hl ⊢
    have HN : Hid (n = z.length) := hn
    clear hn
    obtain ⟨i0, hi, hz0, hz1, hz2⟩ := info_parts Try.info5
    have HI : Hid (Try.prog.info? 5 = some i0) := hi
    have HB : Hid (i0.bytes = 1) := hz2
    have HZ : Hid (i0.zero = some (.int .u8 0)) := hz0
    have HS : Hid (i0.size = 1) := hz1
    clear hi hz0 hz1 hz2
    go_enter Try.func10, Try.ntmps10
    have hlen : (z.map (Value.int .u8)).length = n := by rw [List.length_map]; exact HN.out.symm
    have HL : Hid ((z.map (Value.int .u8)).length = n) := hlen
    have HR : Hid (Bytes w (some x) z) := hr
    clear hlen hr
    go_wp2_with (first
      | (at_make; refine wpList_make_full _ rfl _ _ 22 rfl w.heap.size 5 i0 (.int .u8 0) 1 Try.underlying22 HI.out HZ.out HS.out _ _ _ _ n rfl rfl rfl rfl (by rw [HB.out]; omega) (by unfold maxLen; omega) (Nat.le_refl _) ?_; intro w1 hown hgrow; obtain ⟨cur, HG, HC⟩ := made_row (w := w) hown)
      | ((refine wpList_copy_splice rfl (.tmp 9) (.tmp 10) 22 22 rfl 5 Try.underlying22 Try.size5 _ _ _ _ _ _ rfl rfl w.heap.size 0 cur 5 HG.out (z.map (Value.int .u8)) (by rw [HL.out]; simp) (fun h => ⟨rfl, x, rfl, src_cells HR.out hgrow h⟩) (by rw [HL.out, HC.out]; omega) (ints_oneCell _ _) w.heap.size w ((Below.refl _ _).grown hgrow (Nat.le_refl _) (by simp)) (Nat.le_refl _) ?_); intro w2 HG2 hB2))
    go_ret
    rw [splice_all _ _ (by rw [HL.out, HC.out])] at HG2
    exact ⟨some ⟨w.heap.size, 0, none⟩, by rw [← HN.out]; rfl, bytes_of_row w2 w.heap.size z HG2.out, fun h => by simp at h, hB2⟩

end Go.Proofs.Qxb6604007a
