/-
  THE AUTOMATON's RUN; the exported number's end.
-/
import Derived.Test.Qxb6604007aWalkG
namespace Go.Proofs.Qxb6604007a
open Go.ChangeShapes Go.WideShapes Go.ChangeAt Go.RowKit
set_option linter.unusedVariables false

theorem fin_go2 (s : Int) (z : List Int) (p : Nat) (t x : Int) (hp : p < z.length) (hx : z.getD p 0 = x) (ht : Plain.step s x = t) (h9 : t ≠ 9) :
    Plain.fin p (Plain.auto s (z.drop p)) = Plain.fin (p + 1) (Plain.auto t (z.drop (p + 1))) := by
  subst hx; subst ht
  rw [Plain.auto_go s z p hp h9]
  unfold Plain.fin
  simp only
  split
  · congr 1; omega
  · rfl

theorem step_range (s c : Int) : Plain.step s c = 9 ∨ 0 ≤ Plain.step s c ∧ Plain.step s c ≤ 8 := by
  unfold Plain.step Plain.firstD
  repeat' split
  all_goals omega

theorem acc_any (s : Int) (w : World) (h0 : 0 ≤ s) (h8 : s ≤ 8) (b : Bool) (hb : Hid (Plain.acc s = b)) : Calls Try.prog 25 #[.int .i64 s] w fun e w' => e = .returned (.bool b) ∧ w = w' := by
  have h : s = 0 ∨ s = 1 ∨ s = 2 ∨ s = 3 ∨ s = 4 ∨ s = 5 ∨ s = 6 ∨ s = 7 ∨ s = 8 := by omega
  have hb' := hb.out
  subst hb'
  clear hb
  rcases h with rfl | rfl | rfl | rfl | rfl | rfl | rfl | rfl | rfl
  all_goals
    go_enter Try.func25, Try.ntmps25
    go_wp2
    go_ret
    exact ⟨rfl, rfl⟩

set_option maxHeartbeats 2000000 in
theorem automaton_any (a : Option Addr) (z : List Int) (cap n : Nat) (i : Int) (w : World) (hn : Hid (z.length = n)) (hr : Bytes w a z) (hl : n ≤ 1048576) (h0 : 0 ≤ i) :
    Calls Try.prog 12 #[.slice a n cap, .int .i64 i] w fun e w' => e = .returned (.int .i64 (Plain.num z i.toNat)) ∧ w = w' := by
  obtain ⟨i, rfl⟩ : ∃ k : Nat, i = k := ⟨i.toNat, by omega⟩
  rw [Int.toNat_natCast]
  have HBY := hid hr
  clear hr
  obtain ⟨R, hR⟩ : ∃ R, Plain.num z i = R := ⟨_, rfl⟩
  rw [hR]
  have HR := hid ((Plain.num_auto z i).symm.trans hR)
  clear hR
  go_enter Try.func12, Try.ntmps12
  go_wp2
  go_loop [5, 6] (fun v u => ∃ (s : Int) (p : Nat), v = .int .i64 s ∧ u = .int .i64 p ∧ 0 ≤ s ∧ s ≤ 8 ∧ Plain.fin p (Plain.auto s (z.drop p)) = R) (fun _ u => n - (intOf u).toNat)
  case atStart => exact ⟨0, i, rfl, rfl, by omega, by omega, HR.out⟩
  case round =>
    obtain ⟨s, p, rfl, rfl, hs0, hs8, hf⟩ := hrel
    have HF := hid hf
    clear hf
    by_cases hp : p < n
    · have hpz : p < z.length := by have := hn.out; omega
      obtain ⟨b, off, rfl, hc⟩ : ∃ b off, a = some ⟨b, off, none⟩ ∧ ∀ k, k < z.length → w.cell? ⟨b, off + k, none⟩ = some (.int .u8 (z.getD k 0)) := by
        rcases HBY.out with h | h
        · subst h; simp at hpz
        · exact h
      have hck := hc p hpz
      have HPZ := hid hpz
      clear hc hpz HBY
      generalize hv : z.getD p 0 = x at hck
      have HV := hid hv
      clear hv
      obtain ⟨t, ht⟩ : ∃ t, Plain.step s x = t := ⟨_, rfl⟩
      have hrg := step_range s x
      rw [ht] at hrg
      have HT := hid ht
      clear ht
      by_cases h9 : t = 9
      · have hst : Plain.fin p (Plain.auto s (z.drop p)) = if Plain.acc s = true then (p : Int) else -1 := Plain.fin_stop s z p (by rw [HV.out, HT.out]; exact h9)
        rw [HF.out] at hst
        subst h9
        clear hrg
        cases hb : Plain.acc s with
        | true =>
          rw [hb, if_pos rfl] at hst
          have HST := hid hst
          have HB := hid hb
          clear hst hb
          go_wp2_with (first | (go_at_call 24; refine (step_any s x _ 9 hs0 hs8 HT).mono ?_; rintro e w' ⟨rfl, rfl⟩) | (go_at_call 25; refine (acc_any s _ hs0 hs8 true HB).mono ?_; rintro e w' ⟨rfl, rfl⟩))
          go_ret
          exact ⟨by rw [HST.out]; rfl, rfl⟩
        | false =>
          rw [hb, if_neg (by simp)] at hst
          have HST := hid hst
          have HB := hid hb
          clear hst hb
          go_wp2_with (first | (go_at_call 24; refine (step_any s x _ 9 hs0 hs8 HT).mono ?_; rintro e w' ⟨rfl, rfl⟩) | (go_at_call 25; refine (acc_any s _ hs0 hs8 false HB).mono ?_; rintro e w' ⟨rfl, rfl⟩))
          go_ret
          exact ⟨by rw [HST.out]; rfl, rfl⟩
      · have hrg' : 0 ≤ t ∧ t ≤ 8 := by rcases hrg with h | h; exact absurd h h9; exact h
        clear hrg
        have HG := hid ((fin_go2 s z p t x HPZ.out HV.out HT.out h9).symm.trans HF.out)
        go_wp2_with (go_at_call 24; refine (step_any s x _ t hs0 hs8 HT).mono ?_; rintro e w' ⟨rfl, rfl⟩)
        go_round
        case rel => exact ⟨t, p + 1, rfl, by go_num, hrg'.1, hrg'.2, HG.out⟩
        case measure => simp [intOf]; omega
    · have hst : R = if Plain.acc s = true then (p : Int) else -1 := by
        rw [← HF.out, Plain.auto_end s z p (by have := hn.out; omega)]; unfold Plain.fin; simp
      cases hb : Plain.acc s with
      | true =>
        rw [hb, if_pos rfl] at hst
        have HST := hid hst
        have HB := hid hb
        clear hst hb
        go_wp2_with (go_at_call 25; refine (acc_any s _ hs0 hs8 true HB).mono ?_; rintro e w' ⟨rfl, rfl⟩)
        go_ret
        exact ⟨by rw [HST.out]; rfl, rfl⟩
      | false =>
        rw [hb, if_neg (by simp)] at hst
        have HST := hid hst
        have HB := hid hb
        clear hst hb
        go_wp2_with (go_at_call 25; refine (acc_any s _ hs0 hs8 false HB).mono ?_; rintro e w' ⟨rfl, rfl⟩)
        go_ret
        exact ⟨by rw [HST.out]; rfl, rfl⟩

theorem zznumber_any (a : Option Addr) (z : List Int) (cap n : Nat) (i : Int) (w : World) (hn : Hid (z.length = n)) (hr : Bytes w a z) (hl : n ≤ 1048576) (h0 : 0 ≤ i) (r : Int) (hc : Hid (Plain.num z i.toNat = r)) :
    Calls Try.prog 11 #[.slice a n cap, .int .i64 i] w fun e w' => e = .returned (.int .i64 r) ∧ w = w' := by
  have HR := hid hr
  clear hr
  go_enter Try.func11, Try.ntmps11
  go_wp2_with fail
  refine (number_any a z cap n i _ hn HR.out hl h0).mono ?_
  rintro e w' ⟨rfl, rfl⟩
  rw [hc.out]
  go_wp2_with fail
  go_ret
  exact ⟨rfl, rfl⟩

end Go.Proofs.Qxb6604007a
