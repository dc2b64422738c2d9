/-
  THE CLONE AND THE COMPARISON.
-/
import Derived.Test.Qxb6604022aGrow
import Derived.Deep.QuietTactic
import Derived.BigQuiet
import Derived.WalkSmall
namespace Go.Proofs.Qxb6604022a
open Go.ChangeShapes Go.WideShapes Go.ChangeAt Go.RowKit
set_option linter.unusedVariables false

theorem splice_all {α : Type} (L cs : List α) (h : cs.length = L.length) : splice L 0 cs = cs := by
  unfold splice
  rw [List.drop_eq_nil_of_le (by omega)]
  simp

theorem own_of_row (w : World) (g : Nat) (z : List Int) (hm : z.length ≤ maxLen) (h : w.heap[g]? = some (.cells (cells z).toArray 5 (0, 0))) : Own w (.slice (some ⟨g, 0, none⟩) z.length z.length) z :=
  ⟨by simp [cells], .inr ⟨g, z.length, (cells z).toArray, rfl, Nat.zero_le _, h, Nat.le_refl _, hm, by simp [cells], by rw [Nat.mul_one]; exact List.take_of_length_le (by simp [cells])⟩⟩

theorem made_row {w1 : World} {base g n : Nat} {xs : List Value} (h : w1.ownsRow base 5 1 (.slice (some ⟨g, 0, none⟩) n n) n xs) : ∃ cur : List Value, Hid (w1.heap[g]? = some (.cells cur.toArray 5 (0, 0))) ∧ Hid (cur.length = n) := by
  rcases h.2 with ⟨h, _⟩ | ⟨g', cap, cur, hv, _, hg, _, _, hs, _⟩
  · simp at h
  · simp at hv
    obtain ⟨rfl, rfl⟩ := hv
    exact ⟨cur.toList, by simpa [Hid] using hg, by simpa [Hid] using hs⟩

theorem src_cells {w w1 : World} {x : Addr} {z : List Int} (hr : Bytes w (some x) z) (hg : w.grownBy w1 none) : 0 < (cells z).length → ∀ j v, (cells z)[j]? = some v → w1.cell? (x.add j) = some v := by
  intro _ j v hj
  obtain ⟨hjl, rfl⟩ := cells_at z j v hj
  obtain ⟨b, off, hx, hc⟩ := hr.open (by omega)
  obtain rfl := Option.some.inj hx
  rw [Addr.add_lit]
  exact hg.cell (hc j hjl) (by simp)

/-- what the clone leaves -/
def Cloned (z : List Int) (n : Nat) (w : World) (e : Ending) (w' : World) : Prop :=
  ∃ v', e = .returned v' ∧ Own w' v' z ∧ (∀ g, v'.ownBlock = some g → w.heap.size ≤ g) ∧ Below w.heap.size w w'

set_option maxHeartbeats 1000000 in
theorem clone_any (a : Option Addr) (z : List Int) (n cap : Nat) (w : World) (hn : Hid (z.length = n)) (hr : Bytes w a z) (hl : n ≤ 1048576) (hnil : a = none → z = []) :
    Calls Try.prog 8 #[.slice a n cap] w fun e w' => Cloned z n w e w' := by
  have q22 : ∀ (w : World) (a : Option Addr) (n c n' c' : Nat), (binOp .eql 22 (.slice a n c) (.slice none n' c')).run Try.prog w = .ok (.bool a.isNone) w := fun w a n c n' c' => Lib.run_eql_slice_nil w _ _ a n c n' c' Try.underlying22
  cases a with
  | none =>
    obtain rfl := hnil rfl
    go_enter Try.func8, Try.ntmps8
    go_wp2
    go_ret
    exact ⟨_, rfl, Own.nil _, fun g h => by simp [Value.ownBlock] at h, Below.refl _ _⟩
  | some x =>
    obtain ⟨i0, hi, hz0, hz1, hz2⟩ := info_parts Try.info5
    have HI : Hid (Try.prog.info? 5 = some i0) := hi
    have HB : Hid (i0.bytes = 1) := hz2
    have HZ : Hid (i0.zero = some (.int .u8 0)) := hz0
    have HS : Hid (i0.size = 1) := hz1
    clear hi hz0 hz1 hz2
    have HL : Hid ((cells z).length = n) := by rw [cells_length]; exact hn
    have HR : Hid (Bytes w (some x) z) := hr
    clear hr
    go_enter Try.func8, Try.ntmps8
    go_wp2_with (first
      | (at_make; refine wpList_make_full _ rfl _ _ 22 rfl w.heap.size 5 i0 (.int .u8 0) 1 Try.underlying22 HI.out HZ.out HS.out _ _ _ _ n rfl rfl rfl rfl (by rw [HB.out]; omega) (by unfold maxLen; omega) (Nat.le_refl _) ?_; intro w1 hown hgrow; obtain ⟨cur, HG, HC⟩ := made_row hown)
      | ((refine wpList_copy_splice rfl (.tmp 9) (.tmp 10) 22 22 rfl 5 Try.underlying22 Try.size5 _ _ _ _ _ _ rfl rfl w.heap.size 0 cur 5 HG.out (cells z) (by rw [HL.out]; simp) (fun h => ⟨rfl, x, rfl, src_cells HR.out hgrow h⟩) (by rw [HL.out, HC.out]; omega) (cells_one _) w.heap.size w ((Below.refl _ _).grown hgrow (Nat.le_refl _) (by simp)) (Nat.le_refl _) ?_); intro w2 HG2 hB2))
    go_ret
    rw [splice_all _ _ (by rw [HL.out, HC.out])] at HG2
    have hz := hn.out
    have ho := own_of_row w2 w.heap.size z (by unfold maxLen; omega) HG2.out
    rw [hz] at ho
    exact ⟨_, rfl, ho, fun g h => by simp [Value.ownBlock] at h; omega, hB2⟩

theorem take_eq_snoc (x y : List Int) (k : Nat) (hx : k < x.length) (hy : k < y.length) (h : x.take k = y.take k) (he : x.getD k 0 = y.getD k 0) : x.take (k + 1) = y.take (k + 1) := by
  rw [List.take_add_one, List.take_add_one, h]
  congr 1
  simp [List.getD, hx, hy] at he
  simp [hx, hy, he]

/-- what the comparison leaves -/
def Compared (x y : List Int) (w : World) (e : Ending) (w' : World) : Prop := e = .returned (.bool (decide (x = y))) ∧ Below w.heap.size w w'

set_option maxHeartbeats 2000000 in
theorem equal_any (a b : Option Addr) (x y : List Int) (n m ca cb : Nat) (w : World) (hn : Hid (x.length = n)) (hm : Hid (y.length = m)) (ha : Bytes w a x) (hb : Bytes w b y) (hl : n ≤ 1073741824) (hl2 : m ≤ 1073741824) :
    Calls Try.prog 11 #[.slice a n ca, .slice b m cb] w fun e w' => Compared x y w e w' := by
  by_cases hnm : n = m
  · subst hnm
    have HA := hid ha
    have HB := hid hb
    clear ha hb
    go_enter Try.func11, Try.ntmps11
    go_wp2
    go_loopw [5] (fun v wr => ∃ k : Nat, k ≤ n ∧ v = .int .i64 k ∧ x.take k = y.take k ∧ Below w.heap.size w wr) (fun v _ => n - (intOf v).toNat)
    case atStart => exact ⟨0, Nat.zero_le _, rfl, by simp, Below.refl _ _⟩
    case round =>
      obtain ⟨k, hk, rfl, ht, hbl⟩ := hrel
      have HT := hid ht
      have HBL := hid hbl
      clear ht hbl
      by_cases hlt : k < n
      · obtain ⟨b1, o1, rfl, c1⟩ := (HA.out.below HBL.out).open (by have := hn.out; omega)
        obtain ⟨b2, o2, rfl, c2⟩ := (HB.out.below HBL.out).open (by have := hm.out; omega)
        have d1 := c1 k (by have := hn.out; omega)
        have d2 := c2 k (by have := hm.out; omega)
        clear c1 c2
        generalize hp : x.getD k 0 = p at d1
        generalize hq : y.getD k 0 = q at d2
        have HP := hid hp
        have HQ := hid hq
        clear hp hq
        have hlti : (k : Int) < (n : Int) := by omega
        by_cases hpq : p = q
        · subst hpq
          have HS : Hid (x.take (k + 1) = y.take (k + 1)) := take_eq_snoc x y k (by have := hn.out; omega) (by have := hm.out; omega) HT.out (by rw [HP.out, HQ.out])
          go_wp2
          go_quiet (fail)
          go_wp2
          go_roundw
          case rel => exact ⟨k + 1, by omega, by go_num, HS.out, below_drewN HBL.out _⟩
          case measure => simp [intOf]; omega
        · have hne : (p != q) = true := by simpa using hpq
          have HX : Hid (¬ x = y) := by
            intro e
            rw [e, HQ.out] at HP
            exact hpq HP.out.symm
          go_wp2
          go_quiet (fail)
          go_wp2
          go_ret
          exact ⟨by rw [decide_eq_false HX.out]; rfl, below_drewN HBL.out _⟩
      · have HX : Hid (x = y) := by
          have h1 : x.take k = x := List.take_of_length_le (by have := hn.out; omega)
          have h2 : y.take k = y := List.take_of_length_le (by have := hm.out; omega)
          have := HT.out
          rw [h1, h2] at this
          exact this
        go_wp2
        go_ret
        exact ⟨by rw [decide_eq_true HX.out]; rfl, HBL.out⟩
  · have HX : Hid (¬ x = y) := by
      intro e
      have h1 := hn.out
      have h2 := hm.out
      rw [e] at h1
      omega
    go_enter Try.func11, Try.ntmps11
    go_wp2
    go_ret
    exact ⟨by rw [decide_eq_false HX.out]; rfl, Below.refl _ _⟩

end Go.Proofs.Qxb6604022a
