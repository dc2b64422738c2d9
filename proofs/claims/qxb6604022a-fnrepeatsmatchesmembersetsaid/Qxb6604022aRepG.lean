/-
  SLICES OF STRINGS: their lengths summed, their clone.
-/
import Derived.Test.Qxb6604022aRepF
import Derived.Lib.SliceRun
namespace Go.Proofs.Qxb6604022a
open Go.ChangeShapes Go.WideShapes Go.ChangeAt Go.RowKit
set_option linter.unusedVariables false

theorem Try.info9 : (Try.prog.info? 9).map (fun i => (i.zero, i.size, i.bytes)) = some (some (.string ByteArray.empty), 1, 16) := by kernel_rfl
theorem Try.size9 : (Try.prog.info? 9).map (·.size) = some 1 := by kernel_rfl

/-- A slice of strings at address 'a' that reads as 'S'. -/
def Strs (w : World) (a : Option Addr) (S : List ByteArray) : Prop :=
  S = [] ∨ ∃ b off, a = some ⟨b, off, none⟩ ∧ ∀ k, k < S.length → w.cell? ⟨b, off + k, none⟩ = some (.string (S.getD k ByteArray.empty))
theorem Strs.below {w w' : World} {a : Option Addr} {S : List ByteArray} (h : Strs w a S) (hb : Below w.heap.size w w') : Strs w' a S := by
  rcases h with h | ⟨b, off, ha, hc⟩
  · exact .inl h
  · refine .inr ⟨b, off, ha, fun k hk => ?_⟩
    have h1 := hc k hk
    have hlt : b < w.heap.size := World.block_lt_of_cell? w ⟨b, off + k, none⟩ h1
    rw [hb.cell (p := ⟨b, off + k, none⟩) hlt]
    exact h1
theorem Strs.open {w : World} {a : Option Addr} {S : List ByteArray} (h : Strs w a S) (hz : 0 < S.length) : ∃ b off, a = some ⟨b, off, none⟩ ∧ ∀ k, k < S.length → w.cell? ⟨b, off + k, none⟩ = some (.string (S.getD k ByteArray.empty)) := by
  rcases h with rfl | h
  · simp at hz
  · exact h

/-- the lengths of the first k strings, summed -/
def tot (S : List ByteArray) (k : Nat) : Nat := ((S.take k).map ByteArray.size).sum
theorem tot_zero (S : List ByteArray) : tot S 0 = 0 := by simp [tot]
theorem tot_succ (S : List ByteArray) (k : Nat) (h : k < S.length) (s : ByteArray) (hs : S.getD k ByteArray.empty = s) : tot S (k + 1) = tot S k + s.size := by
  unfold tot
  rw [List.take_add_one, List.map_append, List.sum_append]
  simp [List.getD, h] at hs
  simp [h, hs]
theorem tot_le (S : List ByteArray) (k : Nat) : tot S k ≤ tot S S.length := by
  unfold tot
  have e : S.take S.length = S.take k ++ S.drop k := by simp
  rw [e, List.map_append, List.sum_append]
  omega
theorem size_le_tot (S : List ByteArray) (k : Nat) (h : k < S.length) : (S.getD k ByteArray.empty).size ≤ tot S S.length := by
  have h1 := tot_succ S k h _ rfl
  have h2 := tot_le S (k + 1)
  omega

/-- what the bound on the lengths tells -/
def Bounded (t : Nat) (w : World) (e : Ending) (w' : World) : Prop := ∃ b, e = .returned (.bool b) ∧ w = w' ∧ (b = true → t ≤ 1048576)

set_option maxRecDepth 100000 in
set_option maxHeartbeats 2000000 in
theorem zz19_any (a b : Option Addr) (So Sk : List ByteArray) (n m ca cb : Nat) (w : World) (hn : Hid (So.length = n)) (hm : Hid (Sk.length = m)) (ha : Strs w a So) (hb : Strs w b Sk) (hnl : n ≤ 9223372036854775807) (hml : m ≤ 9223372036854775807)
    (hs1 : ∀ s ∈ So, s.size ≤ 9223372036854775807) (hs2 : ∀ s ∈ Sk, s.size ≤ 9223372036854775807) :
    Calls Try.prog 19 #[.slice a n ca, .slice b m cb] w fun e w' => Bounded (n + tot So n + m + tot Sk m) w e w' := by
  have HA := hid ha
  have HB := hid hb
  have HS1 := hid hs1
  have HS2 := hid hs2
  clear ha hb hs1 hs2
  by_cases h1 : 1048576 < n
  · go_enter Try.func19, Try.ntmps19
    go_wp2
    go_ret
    exact ⟨false, rfl, rfl, by simp⟩
  go_enter Try.func19, Try.ntmps19
  go_wp2
  go_loop [5, 6] (fun v i => ∃ k z : Nat, k ≤ n ∧ i = .int .i64 k ∧ v = .int .i64 z ∧ z = n + tot So k ∧ z ≤ 1048576) (fun _ i => n - (intOf i).toNat)
  case atStart => exact ⟨0, n, Nat.zero_le _, rfl, rfl, by rw [tot_zero]; rfl, by omega⟩
  case round =>
    obtain ⟨k, z, hk, rfl, rfl, hz, hzl⟩ := hrel
    have HZ := hid hz
    clear hz
    by_cases hlt : k < n
    · have hkl : k < So.length := by have := hn.out; omega
      obtain ⟨b1, o1, rfl, hc⟩ := HA.out.open (by omega)
      have hck := hc k hkl
      obtain ⟨s, hs⟩ : ∃ s, So.getD k ByteArray.empty = s := ⟨_, rfl⟩
      rw [hs] at hck
      have HT := hid (tot_succ So k hkl s hs)
      have hsz : s.size ≤ 9223372036854775807 := by
        rw [← hs]
        exact HS1.out _ (by simp [List.getD, hkl])
      clear hc hs hkl
      by_cases h2 : 1048576 < s.size
      · go_wp2
        go_ret
        exact ⟨false, rfl, rfl, by simp⟩
      by_cases h3 : 1048576 < z + s.size
      · go_wp2
        go_ret
        exact ⟨false, rfl, rfl, by simp⟩
      · go_wp2
        go_round
        case rel => exact ⟨k + 1, z + s.size, by omega, by go_num, by go_num, by rw [HT.out, HZ.out]; omega, by omega⟩
        case measure => simp [intOf]; omega
    · have hkn : k = n := by omega
      subst hkn
      by_cases h4 : 1048576 < m
      · go_wp2
        go_ret
        exact ⟨false, rfl, rfl, by simp⟩
      by_cases h5 : 1048576 < z + m
      · go_wp2
        go_ret
        exact ⟨false, rfl, rfl, by simp⟩
      go_wp2
      go_loop [5, 7] (fun v i => ∃ j y : Nat, j ≤ m ∧ i = .int .i64 j ∧ v = .int .i64 y ∧ y = z + m + tot Sk j ∧ y ≤ 1048576) (fun _ i => m - (intOf i).toNat)
      case atStart => exact ⟨0, z + m, Nat.zero_le _, rfl, by go_num, by rw [tot_zero]; rfl, by omega⟩
      case round =>
        obtain ⟨j, y, hj, rfl, rfl, hy, hyl⟩ := hrel
        have HY := hid hy
        clear hy
        by_cases hlt2 : j < m
        · have hjl : j < Sk.length := by have := hm.out; omega
          obtain ⟨b1, o1, rfl, hc⟩ := HB.out.open (by omega)
          have hck := hc j hjl
          obtain ⟨s, hs⟩ : ∃ s, Sk.getD j ByteArray.empty = s := ⟨_, rfl⟩
          rw [hs] at hck
          have HT := hid (tot_succ Sk j hjl s hs)
          have hsz : s.size ≤ 9223372036854775807 := by
            rw [← hs]
            exact HS2.out _ (by simp [List.getD, hjl])
          clear hc hs hjl
          by_cases h2 : 1048576 < s.size
          · go_wp2
            go_ret
            exact ⟨false, rfl, rfl, by simp⟩
          by_cases h3 : 1048576 < y + s.size
          · go_wp2
            go_ret
            exact ⟨false, rfl, rfl, by simp⟩
          · go_wp2
            go_round
            case rel => exact ⟨j + 1, y + s.size, by omega, by go_num, by go_num, by rw [HT.out, HY.out]; omega, by omega⟩
            case measure => simp [intOf]; omega
        · have hjm : j = m := by omega
          subst hjm
          go_wp2
          go_ret
          exact ⟨true, rfl, rfl, fun _ => by have h1 := HZ.out; have h2 := HY.out; omega⟩

set_option maxHeartbeats 1000000 in
theorem strbytes_any (a : Option Addr) (S : List ByteArray) (n ca : Nat) (w : World) (hn : Hid (S.length = n)) (ha : Strs w a S) (hnl : n ≤ 1048576) (ht : tot S n ≤ 1048576) (r : Int) (hr : Hid (((16 * n + tot S n : Nat) : Int) = r)) :
    Calls Try.prog 20 #[.slice a n ca] w fun e w' => e = .returned (.int .i64 r) ∧ w = w' := by
  have HA := hid ha
  clear ha
  go_enter Try.func20, Try.ntmps20
  go_wp2
  go_loop [3, 4] (fun v i => ∃ k z : Nat, k ≤ n ∧ i = .int .i64 k ∧ v = .int .i64 z ∧ z = 16 * n + tot S k) (fun _ i => n - (intOf i).toNat)
  case atStart => exact ⟨0, 16 * n, Nat.zero_le _, rfl, by go_num, by rw [tot_zero]; rfl⟩
  case round =>
    obtain ⟨k, z, hk, rfl, rfl, hz⟩ := hrel
    have hzl : z ≤ 33554432 := by have := tot_le S k; have h2 := hn.out; rw [h2] at this; omega
    have HZ := hid hz
    clear hz
    by_cases hlt : k < n
    · have hkl : k < S.length := by have := hn.out; omega
      obtain ⟨b1, o1, rfl, hc⟩ := HA.out.open (by omega)
      have hck := hc k hkl
      have hsl := size_le_tot S k hkl
      obtain ⟨s, hs⟩ : ∃ s, S.getD k ByteArray.empty = s := ⟨_, rfl⟩
      rw [hs] at hck hsl
      rw [hn.out] at hsl
      have HT := hid (tot_succ S k hkl s hs)
      have hsz : s.size ≤ 1048576 := by omega
      clear hc hs hkl hsl
      go_wp2
      go_round
      case rel => exact ⟨k + 1, z + s.size, by omega, by go_num, by go_num, by rw [HT.out, HZ.out]; omega⟩
      case measure => simp [intOf]; omega
    · have hkn : k = n := by omega
      subst hkn
      go_wp2
      go_ret
      exact ⟨by rw [← hr.out, ← HZ.out]; rfl, rfl⟩

/-- the cells of a list of strings -/
def scells (S : List ByteArray) : List Value := S.map Value.string
theorem scells_at (S : List ByteArray) (j : Nat) (v : Value) (h : (scells S)[j]? = some v) : j < S.length ∧ v = .string (S.getD j ByteArray.empty) := by
  unfold scells at h
  rw [List.getElem?_map] at h
  cases hj : S[j]? with
  | none => rw [hj] at h; simp at h
  | some c =>
    rw [hj] at h
    simp at h
    have := (List.getElem?_eq_some_iff.1 hj).1
    refine ⟨this, ?_⟩
    rw [← h]; simp [List.getD, hj]
theorem scells_one (S : List ByteArray) : ∀ u ∈ scells S, u.oneCell' = true := by
  intro u hu
  obtain ⟨_, _, rfl⟩ := List.mem_map.1 hu
  rfl
theorem made_row9 {w1 : World} {base g n : Nat} {xs : List Value} (h : w1.ownsRow base 9 1 (.slice (some ⟨g, 0, none⟩) n n) n xs) : ∃ cur : List Value, Hid (w1.heap[g]? = some (.cells cur.toArray 9 (0, 0))) ∧ Hid (cur.length = n) := by
  rcases h.2 with ⟨h, _⟩ | ⟨g', cap, cur, hv, _, hg, _, _, hs, _⟩
  · simp at h
  · simp at hv
    obtain ⟨rfl, rfl⟩ := hv
    exact ⟨cur.toList, by simpa [Hid] using hg, by simpa [Hid] using hs⟩
theorem ssrc_cells {w w1 : World} {x : Addr} {S : List ByteArray} (hr : Strs w (some x) S) (hg : w.grownBy w1 none) : 0 < (scells S).length → ∀ j v, (scells S)[j]? = some v → w1.cell? (x.add j) = some v := by
  intro _ j v hj
  obtain ⟨hjl, rfl⟩ := scells_at S j v hj
  obtain ⟨b, off, hx, hc⟩ := hr.open (by omega)
  obtain rfl := Option.some.inj hx
  rw [Addr.add_lit]
  exact hg.cell (hc j hjl) (by simp)
theorem strs_of_row (w : World) (g : Nat) (S : List ByteArray) (h : w.heap[g]? = some (.cells (scells S).toArray 9 (0, 0))) : Strs w (some ⟨g, 0, none⟩) S := by
  refine .inr ⟨g, 0, rfl, fun k hk => ?_⟩
  rw [Nat.zero_add, cell_of_row w g k _ 9 (0, 0) h]
  simp [scells, List.getD, hk]
theorem splice_all' {α : Type} (L cs : List α) (h : cs.length = L.length) : splice L 0 cs = cs := by
  unfold splice
  rw [List.drop_eq_nil_of_le (by omega)]
  simp

/-- what the clone leaves -/
def SCloned (S : List ByteArray) (n : Nat) (w : World) (e : Ending) (w' : World) : Prop :=
  ∃ a', e = .returned (.slice a' n n) ∧ Strs w' a' S ∧ Below w.heap.size w w'

set_option maxHeartbeats 1000000 in
theorem sclone_is (a : Option Addr) (S : List ByteArray) (n cap : Nat) (w : World) (hn : Hid (S.length = n)) (hr : Strs w a S) (hl : n ≤ 1048576) (hnil : a = none → S = []) :
    Calls Try.prog 21 #[.slice a n cap] w fun e w' => SCloned S n w e w' := by
  have q41 : ∀ (w : World) (a : Option Addr) (n c n' c' : Nat), (binOp .eql 41 (.slice a n c) (.slice none n' c')).run Try.prog w = .ok (.bool a.isNone) w := fun w a n c n' c' => Lib.run_eql_slice_nil w _ _ a n c n' c' Try.underlying41
  cases a with
  | none =>
    obtain rfl := hnil rfl
    obtain rfl : 0 = n := hn.out
    go_enter Try.func21, Try.ntmps21
    go_wp2
    go_ret
    exact ⟨none, rfl, .inl rfl, Below.refl _ _⟩
  | some x =>
    obtain ⟨i0, hi, hz0, hz1, hz2⟩ := info_parts Try.info9
    have HI : Hid (Try.prog.info? 9 = some i0) := hi
    have HB : Hid (i0.bytes = 16) := hz2
    have HZ : Hid (i0.zero = some (.string ByteArray.empty)) := hz0
    have HS : Hid (i0.size = 1) := hz1
    clear hi hz0 hz1 hz2
    have HL : Hid ((scells S).length = n) := by unfold scells; rw [List.length_map]; exact hn
    have HR : Hid (Strs w (some x) S) := hr
    clear hr
    go_enter Try.func21, Try.ntmps21
    go_wp2_with (first
      | (at_make; refine wpList_make_full _ rfl _ _ 41 rfl w.heap.size 9 i0 (.string ByteArray.empty) 1 Try.underlying41 HI.out HZ.out HS.out _ _ _ _ n rfl rfl rfl rfl (by rw [HB.out]; omega) (by unfold maxLen; omega) (Nat.le_refl _) ?_; intro w1 hown hgrow; obtain ⟨cur, HG, HC⟩ := made_row9 hown)
      | ((refine wpList_copy_splice rfl (.tmp 9) (.tmp 10) 41 41 rfl 9 Try.underlying41 Try.size9 _ _ _ _ _ _ rfl rfl w.heap.size 0 cur 9 HG.out (scells S) (by rw [HL.out]; simp) (fun h => ⟨rfl, x, rfl, ssrc_cells HR.out hgrow h⟩) (by rw [HL.out, HC.out]; omega) (scells_one _) w.heap.size w ((Below.refl _ _).grown hgrow (Nat.le_refl _) (by simp)) (Nat.le_refl _) ?_); intro w2 HG2 hB2))
    go_ret
    rw [splice_all' _ _ (by rw [HL.out, HC.out])] at HG2
    exact ⟨_, rfl, strs_of_row w2 w.heap.size S HG2.out, hB2⟩

end Go.Proofs.Qxb6604022a
