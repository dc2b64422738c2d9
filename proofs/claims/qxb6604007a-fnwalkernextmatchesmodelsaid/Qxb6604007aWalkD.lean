/-
  THE COMMA-COUNTING MODEL.
-/
import Derived.Test.Qxb6604007aRowIn
namespace Go.Proofs.Qxb6604007a
open Go.ChangeShapes Go.WideShapes Go.ChangeAt Go.RowKit
set_option linter.unusedVariables false

theorem ws_split (c : Int) (h : Plain.ws c = true) : c = 32 ∨ c = 9 ∨ c = 10 ∨ c = 13 := by
  simp [Plain.ws] at h; omega

theorem wsb_yes (c : Int) (w : World) (h : Hid (Plain.ws c = true)) : Calls Try.prog 28 #[.int .u8 c] w fun e w' => e = .returned (.bool true) ∧ w = w' := by
  have h1 := ws_split c h.out
  clear h
  rcases h1 with rfl | rfl | rfl | rfl
  all_goals
    go_enter Try.func28, Try.ntmps28
    go_wp2
    go_ret
    exact ⟨rfl, rfl⟩

theorem wsb_no (c : Int) (w : World) (h : Hid (Plain.ws c = false)) : Calls Try.prog 28 #[.int .u8 c] w fun e w' => e = .returned (.bool false) ∧ w = w' := by
  have h1 : ¬ c = 32 := by intro e; have := h.out; rw [ws_yes c (by omega)] at this; cases this
  have h2 : ¬ c = 9 := by intro e; have := h.out; rw [ws_yes c (by omega)] at this; cases this
  have h3 : ¬ c = 10 := by intro e; have := h.out; rw [ws_yes c (by omega)] at this; cases this
  have h4 : ¬ c = 13 := by intro e; have := h.out; rw [ws_yes c (by omega)] at this; cases this
  go_enter Try.func28, Try.ntmps28
  go_wp2
  go_ret
  refine ⟨?_, rfl⟩
  show Ending.returned (.bool (Plain.ws c)) = _
  rw [h.out]

set_option maxHeartbeats 3200000 in
theorem model_any (a : Option Addr) (z : List Int) (cap n : Nat) (strict : Bool) (i c : Int) (w : World) (hn : Hid (z.length = n)) (hr : Bytes w a z) (hl : n ≤ 1048576) (h0 : 0 ≤ i) :
    Calls Try.prog 21 #[.slice a n cap, .bool strict, .int .i64 i, .int .u8 c] w fun e w' => e = .returned (.int .i64 (Plain.nxt z strict i.toNat c)) ∧ w = w' := by
  obtain ⟨i, rfl⟩ : ∃ k : Nat, i = k := ⟨i.toNat, by omega⟩
  rw [Int.toNat_natCast]
  obtain ⟨P, K, hm⟩ : ∃ P K, Plain.mod z i 0 = (P, K) := ⟨_, _, rfl⟩
  obtain ⟨R, hR⟩ : ∃ R, Plain.nxt z strict i c = R := ⟨_, rfl⟩
  rw [hR]
  have HM := hid hm
  have HR := hid hR
  have HBY := hid hr
  clear hm hR hr
  -- what the two ways out come to
  have fin0 : ∀ p : Nat, strict = false → p = P → R = (p : Int) := fun p hs hp => by
    subst hs; subst hp; rw [← HR.out, Plain.nxt_mod_loose, HM.out]
  have fin1 : ∀ p k : Nat, strict = true → p = P → k = K → R = if (k = 1) ↔ ¬ (z.getD p 0 = c) then (p : Int) else -1 := fun p k hs hp hk => by
    subst hs; subst hp; subst hk; rw [← HR.out]; exact (Plain.nxt_mod_strict z i c _ _ HM.out).2
  have F0 := hid fin0
  have F1 := hid fin1
  clear fin0 fin1
  go_enter Try.func21, Try.ntmps21
  go_wp2
  go_loop [9, 10] (fun v u => ∃ p k : Nat, v = .int .i64 p ∧ u = .int .i64 k ∧ Plain.mod z p k = (P, K) ∧ (k = 0 ∨ k = 1)) (fun v _ => n - (intOf v).toNat)
  case atStart => exact ⟨i, 0, rfl, rfl, HM.out, .inl rfl⟩
  case round =>
    obtain ⟨p, k, rfl, rfl, hmp, hk⟩ := hrel
    have HMP := hid hmp
    clear hmp
    by_cases hp : p < n
    · have hpz : p < z.length := by have := hn.out; omega
      obtain ⟨b, off, rfl, hc⟩ : ∃ b off, a = some ⟨b, off, none⟩ ∧ ∀ k, k < z.length → w.cell? ⟨b, off + k, none⟩ = some (.int .u8 (z.getD k 0)) := by
        rcases HBY.out with h | h
        · subst h; simp at hpz
        · exact h
      have hck := hc p hpz
      have HPZ := hid hpz
      clear hc hpz HBY
      generalize hv : z.getD p 0 = x at hck
      have HV := hid hv
      clear hv
      by_cases hws : Plain.ws x = true
      · have HW := hid hws
        have HS : Hid (Plain.mod z (p + 1) k = (P, K)) := by
          have := Plain.mod_ws z p k HPZ.out (by rw [HV.out]; exact hws)
          rw [HMP.out] at this; exact hid this
        clear hws
        go_wp2_with (go_at_call 28; refine (wsb_yes x _ HW).mono ?_; rintro e w' ⟨rfl, rfl⟩)
        go_round
        case rel => exact ⟨p + 1, k, by go_num, rfl, HS.out, hk⟩
        case measure => simp [intOf]; omega
      · have hws' : Plain.ws x = false := by simpa using hws
        have HW := hid hws'
        clear hws hws'
        by_cases hc : x = 44 ∧ k = 0
        · obtain ⟨hx, rfl⟩ := hc
          have HS : Hid (Plain.mod z (p + 1) 1 = (P, K)) := by
            have := Plain.mod_comma z p (by rw [HV.out]; exact hx)
            rw [HMP.out] at this; exact hid this
          subst hx
          go_wp2_with (go_at_call 28; refine (wsb_no 44 _ HW).mono ?_; rintro e w' ⟨rfl, rfl⟩)
          go_round
          case rel => exact ⟨p + 1, 1, by go_num, rfl, HS.out, .inr rfl⟩
          case measure => simp [intOf]; omega
        · have hst : Plain.mod z p k = (p, k) := Plain.mod_stop z p k (by rw [HV.out]; exact HW.out) (by rw [HV.out]; omega)
          rw [HMP.out] at hst
          obtain ⟨hP, hK⟩ := Prod.mk.inj hst
          have HP := hid hP
          have HK := hid hK
          clear hst hP hK
          rcases hk with rfl | rfl
          · have hx : ¬ x = 44 := fun h => hc ⟨h, rfl⟩
            clear hc
            cases strict with
            | false =>
              have HRp : Hid (R = (p : Int)) := F0.out p rfl HP.out.symm
              clear F0 F1
              go_wp2_with (go_at_call 28; refine (wsb_no x _ HW).mono ?_; rintro e w' ⟨rfl, rfl⟩)
              go_ret
              exact ⟨by rw [HRp.out]; rfl, rfl⟩
            | true =>
              have hR := F1.out p 0 rfl HP.out.symm HK.out.symm
              rw [HV.out] at hR
              clear F0 F1
              by_cases hcx : c = x
              · rw [if_pos (by simp; omega)] at hR
                have HR2 := hid hR
                clear hR
                have hcx' : x = c := hcx.symm
                clear hcx
                subst hcx'
                go_wp2_with (go_at_call 28; refine (wsb_no x _ HW).mono ?_; rintro e w' ⟨rfl, rfl⟩)
                go_ret
                exact ⟨by rw [HR2.out]; rfl, rfl⟩
              · rw [if_neg (by simp; omega)] at hR
                have HR2 := hid hR
                clear hR
                have hcb : ((x : Int) == c) = false := by simp; omega
                go_wp2_with (go_at_call 28; refine (wsb_no x _ HW).mono ?_; rintro e w' ⟨rfl, rfl⟩)
                go_ret
                exact ⟨by rw [HR2.out]; rfl, rfl⟩
          · clear hc
            by_cases hx : x = 44
            · subst hx
              cases strict with
              | false =>
                have HRp : Hid (R = (p : Int)) := F0.out p rfl HP.out.symm
                clear F0 F1
                go_wp2_with (go_at_call 28; refine (wsb_no 44 _ HW).mono ?_; rintro e w' ⟨rfl, rfl⟩)
                go_ret
                exact ⟨by rw [HRp.out]; rfl, rfl⟩
              | true =>
                have hR := F1.out p 1 rfl HP.out.symm HK.out.symm
                rw [HV.out] at hR
                clear F0 F1
                by_cases hcx : c = 44
                · rw [if_neg (by simp; omega)] at hR
                  have HR2 := hid hR
                  clear hR
                  subst hcx
                  go_wp2_with (go_at_call 28; refine (wsb_no 44 _ HW).mono ?_; rintro e w' ⟨rfl, rfl⟩)
                  go_ret
                  exact ⟨by rw [HR2.out]; rfl, rfl⟩
                · rw [if_pos (by simp; omega)] at hR
                  have HR2 := hid hR
                  clear hR
                  have hcb : ((44 : Int) == c) = false := by simp; omega
                  go_wp2_with (go_at_call 28; refine (wsb_no 44 _ HW).mono ?_; rintro e w' ⟨rfl, rfl⟩)
                  go_ret
                  exact ⟨by rw [HR2.out]; rfl, rfl⟩
            · skip
              cases strict with
              | false =>
                have HRp : Hid (R = (p : Int)) := F0.out p rfl HP.out.symm
                clear F0 F1
                go_wp2_with (go_at_call 28; refine (wsb_no x _ HW).mono ?_; rintro e w' ⟨rfl, rfl⟩)
                go_ret
                exact ⟨by rw [HRp.out]; rfl, rfl⟩
              | true =>
                have hR := F1.out p 1 rfl HP.out.symm HK.out.symm
                rw [HV.out] at hR
                clear F0 F1
                by_cases hcx : c = x
                · rw [if_neg (by simp; omega)] at hR
                  have HR2 := hid hR
                  clear hR
                  have hcx' : x = c := hcx.symm
                  clear hcx
                  subst hcx'
                  go_wp2_with (go_at_call 28; refine (wsb_no x _ HW).mono ?_; rintro e w' ⟨rfl, rfl⟩)
                  go_ret
                  exact ⟨by rw [HR2.out]; rfl, rfl⟩
                · rw [if_pos (by simp; omega)] at hR
                  have HR2 := hid hR
                  clear hR
                  have hcb : ((x : Int) == c) = false := by simp; omega
                  go_wp2_with (go_at_call 28; refine (wsb_no x _ HW).mono ?_; rintro e w' ⟨rfl, rfl⟩)
                  go_ret
                  exact ⟨by rw [HR2.out]; rfl, rfl⟩
    · have hst : Plain.mod z p k = (p, k) := Plain.mod_end z p k (by have := hn.out; omega)
      rw [HMP.out] at hst
      obtain ⟨hP, hK⟩ := Prod.mk.inj hst
      have HP := hid hP
      have HK := hid hK
      clear hst hP hK
      have HV : Hid (z.getD p 0 = 0) := Plain.getD_zero z p (by have := hn.out; omega)
      cases strict with
      | false =>
        have HRp : Hid (R = (p : Int)) := F0.out p rfl HP.out.symm
        clear F0 F1
        go_wp2
        go_ret
        exact ⟨by rw [HRp.out]; rfl, rfl⟩
      | true =>
        have hR := F1.out p k rfl HP.out.symm HK.out.symm
        rw [HV.out] at hR
        clear F0 F1
        rcases hk with rfl | rfl
        · by_cases hc : c = 0
          · rw [if_pos (by simp; omega)] at hR
            have HR2 := hid hR
            clear hR
            have hcb : ((0 : Int) == c) = true := by simp; omega
            go_wp2
            go_ret
            exact ⟨by rw [HR2.out]; rfl, rfl⟩
          · rw [if_neg (by simp; omega)] at hR
            have HR2 := hid hR
            clear hR
            have hcb : ((0 : Int) == c) = false := by simp; omega
            go_wp2
            go_ret
            exact ⟨by rw [HR2.out]; rfl, rfl⟩
        · by_cases hc : c = 0
          · rw [if_neg (by simp; omega)] at hR
            have HR2 := hid hR
            clear hR
            have hcb : ((0 : Int) == c) = true := by simp; omega
            go_wp2
            go_ret
            exact ⟨by rw [HR2.out]; rfl, rfl⟩
          · rw [if_pos (by simp; omega)] at hR
            have HR2 := hid hR
            clear hR
            have hcb : ((0 : Int) == c) = false := by simp; omega
            go_wp2
            go_ret
            exact ⟨by rw [HR2.out]; rfl, rfl⟩

end Go.Proofs.Qxb6604007a
