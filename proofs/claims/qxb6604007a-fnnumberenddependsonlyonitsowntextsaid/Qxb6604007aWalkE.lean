/-
  THE NUMBER's END.
-/
import Derived.Test.Qxb6604007aRowIn
namespace Go.Proofs.Qxb6604007a
open Go.ChangeShapes Go.WideShapes Go.ChangeAt Go.RowKit
set_option linter.unusedVariables false

set_option maxHeartbeats 1000000 in
theorem digits_is (a : Option Addr) (z : List Int) (cap n : Nat) (i : Int) (w : World) (r : Nat) (hn : Hid (z.length = n)) (hr : Bytes w a z) (hl : n ≤ 1048576) (h0 : 0 ≤ i) (hc : Hid (Plain.de z i.toNat = r)) :
    Calls Try.prog 30 #[.slice a n cap, .int .i64 i] w fun e w' => e = .returned (.int .i64 (r : Int)) ∧ w' = w := by
  obtain ⟨k0, rfl⟩ : ∃ k : Nat, i = k := ⟨i.toNat, by omega⟩
  rw [Int.toNat_natCast] at hc
  have HBY := hid hr
  clear hr
  go_enter Try.func30, Try.ntmps30
  go_wp2
  go_loop [1] (fun v => ∃ k : Nat, v = .int .i64 k ∧ Plain.de z k = r) (fun v => n - (intOf v).toNat)
  case atStart => exact ⟨k0, rfl, hc.out⟩
  case round =>
    obtain ⟨k, rfl, hk0⟩ := hrel
    have HK := hid hk0
    clear hk0
    by_cases hk : k < n
    · have hkz : k < z.length := by have := hn.out; omega
      obtain ⟨b, off, rfl, hc⟩ : ∃ b off, a = some ⟨b, off, none⟩ ∧ ∀ k, k < z.length → w.cell? ⟨b, off + k, none⟩ = some (.int .u8 (z.getD k 0)) := by
        rcases HBY.out with h | h
        · subst h; simp at hkz
        · exact h
      have hck := hc k hkz
      have HKZ := hid hkz
      clear hc hkz HBY
      generalize hv : z.getD k 0 = x at hck
      have HV := hid hv
      clear hv
      by_cases h1 : 48 ≤ x
      · by_cases h2 : x ≤ 57
        · have HS : Hid (Plain.de z (k + 1) = r) := by
            have := Plain.runE_step Plain.dg z k HKZ.out (by rw [HV.out]; exact (Plain.dg_iff x).2 ⟨h1, h2⟩)
            have h3 := HK.out
            unfold Plain.de at h3
            exact hid (this.trans h3)
          go_wp2
          go_round
          case rel => exact ⟨k + 1, by go_num, HS.out⟩
          case measure => simp [intOf]; omega
        · have e : r = k := by rw [← HK.out]; exact Plain.runE_no Plain.dg z k (by rw [HV.out]; exact (Plain.dg_no x).2 (by omega))
          have HE := hid e
          clear e
          go_wp2
          go_ret
          exact ⟨by rw [HE.out]; rfl, rfl⟩
      · have e : r = k := by rw [← HK.out]; exact Plain.runE_no Plain.dg z k (by rw [HV.out]; exact (Plain.dg_no x).2 (by omega))
        have HE := hid e
        clear e
        go_wp2
        go_ret
        exact ⟨by rw [HE.out]; rfl, rfl⟩
    · have e : r = k := by rw [← HK.out]; exact Plain.runE_end Plain.dg z k (by have := hn.out; omega)
      have HE := hid e
      clear e
      go_wp2
      go_ret
      exact ⟨by rw [HE.out]; rfl, rfl⟩

theorem at_eq (a : Option Addr) (z : List Int) (cap n : Nat) (i : Int) (w : World) (c : Int) (hn : Hid (z.length = n)) (hr : Bytes w a z) (hl : n ≤ 1048576) (h0 : 0 ≤ i) (hc : Hid (z.getD i.toNat 0 = c)) :
    Calls Try.prog 29 #[.slice a n cap, .int .i64 i] w fun e w' => e = .returned (.int .u8 c) ∧ w = w' :=
  (at_is a z cap n i w c hn hr hl h0 hc).mono fun _ _ h => ⟨h.1, h.2.symm⟩
theorem digits_eq (a : Option Addr) (z : List Int) (cap n : Nat) (i : Int) (w : World) (r : Nat) (hn : Hid (z.length = n)) (hr : Bytes w a z) (hl : n ≤ 1048576) (h0 : 0 ≤ i) (hc : Hid (Plain.de z i.toNat = r)) :
    Calls Try.prog 30 #[.slice a n cap, .int .i64 i] w fun e w' => e = .returned (.int .i64 (r : Int)) ∧ w = w' :=
  (digits_is a z cap n i w r hn hr hl h0 hc).mono fun _ _ h => ⟨h.1, h.2.symm⟩

end Go.Proofs.Qxb6604007a
