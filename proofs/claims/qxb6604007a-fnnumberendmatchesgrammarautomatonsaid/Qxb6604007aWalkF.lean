/-
  THE NUMBER's END, whole: its parts meet again behind each test ('go_cut').
-/
import Derived.Test.Qxb6604007aWalkE
import Derived.Deep.Cut
import Derived.Deep.CutBlock
namespace Go.Proofs.Qxb6604007a
open Go.ChangeShapes Go.WideShapes Go.ChangeAt Go.RowKit
set_option linter.unusedVariables false

set_option maxHeartbeats 4000000 in
theorem number_any (a : Option Addr) (z : List Int) (cap n : Nat) (i : Int) (w : World) (hn : Hid (z.length = n)) (hr : Bytes w a z) (hl : n ≤ 1048576) (h0 : 0 ≤ i) :
    Calls Try.prog 23 #[.slice a n cap, .int .i64 i] w fun e w' => e = .returned (.int .i64 (Plain.num z i.toNat)) ∧ w = w' := by
  obtain ⟨i, rfl⟩ : ∃ k : Nat, i = k := ⟨i.toNat, by omega⟩
  rw [Int.toNat_natCast]
  have HBY := hid hr
  clear hr
  obtain ⟨c0, hc0⟩ : ∃ x, z.getD i 0 = x := ⟨_, rfl⟩
  have H0 : Hid (z.getD (i : Int).toNat 0 = c0) := by rw [Int.toNat_natCast]; exact hid hc0
  obtain ⟨i1, hi1⟩ : ∃ k : Nat, k = if c0 = 45 then i + 1 else i := ⟨_, rfl⟩
  have hle : c0 = 45 → i < n := fun h => by rw [← hn.out]; exact Plain.lt_of_ne z i (by omega)
  have e1 : Plain.num z i = Plain.numI z i1 := by
    unfold Plain.num; rw [hc0, hi1]; split <;> rfl
  rw [e1]
  obtain ⟨R, hR⟩ : ∃ R, Plain.numI z i1 = R := ⟨_, rfl⟩
  rw [hR]
  have HR := hid hR
  have HI1 := hid hi1
  clear hc0 hi1 e1 hR
  go_enter Try.func23, Try.ntmps23
  go_upto_if 13 with (go_at_call 29; refine (at_eq a z cap n i _ c0 hn HBY.out hl (by omega) H0).mono ?_; rintro e w' ⟨rfl, rfl⟩)
  go_cut [1] from 10 (fun v wc => v = .int .i64 (i1 : Nat) ∧ w = wc)
  case first =>
    by_cases h45 : c0 = 45
    · have hlt := hle h45
      have HJ : Hid ((i1 : Nat) = i + 1) := by have := HI1.out; rw [if_pos h45] at this; exact hid this
      clear hle
      go_wp2_with fail
      go_meet
      case rel => exact ⟨by rw [HJ.out]; go_num, rfl⟩
    · have HJ : Hid ((i1 : Nat) = i) := by have := HI1.out; rw [if_neg h45] at this; exact hid this
      clear hle
      go_wp2_with fail
      go_meet
      case rel => exact ⟨by rw [HJ.out], rfl⟩
  case rest =>
    obtain ⟨rfl, rfl⟩ := hcut
    clear HI1 H0 hle h0
    obtain ⟨c1, hc1⟩ : ∃ x, z.getD i1 0 = x := ⟨_, rfl⟩
    have H1 : Hid (z.getD (i1 : Int).toNat 0 = c1) := by rw [Int.toNat_natCast]; exact hid hc1
    have hlt1 : c1 ≠ 0 → i1 < n := fun h => by rw [← hn.out]; exact Plain.lt_of_ne z i1 (by omega)
    by_cases hbad : c1 = 48 ∨ 49 ≤ c1 ∧ c1 ≤ 57
    · have hlt := hlt1 (by omega)
      clear hlt1
      obtain ⟨i2, hi2⟩ : ∃ k : Nat, k = if c1 = 48 then i1 + 1 else Plain.de z (i1 + 1) := ⟨_, rfl⟩
      have hi2n : i2 ≤ n := by
        rw [hi2]; split
        · omega
        · rw [← hn.out]; exact Plain.runE_le _ _ _ (by rw [hn.out]; omega)
      have e2 : Plain.numI z i1 = Plain.numF z i2 := by
        unfold Plain.numI; rw [hc1, hi2]
        by_cases h48 : c1 = 48
        · rw [if_pos h48, if_pos h48]
        · rw [if_neg h48, if_neg h48, if_pos (by omega)]
      have HR2 : Hid (Plain.numF z i2 = R) := hid (e2.symm.trans HR.out)
      have HI2 := hid hi2
      clear HR e2 hi2 hc1
      go_upto_block 0 with (go_at_call 29; refine (at_eq a z cap n i1 _ c1 hn HBY.out hl (by omega) H1).mono ?_; rintro e w' ⟨rfl, rfl⟩)
      go_cut [1] from 10 (fun v wc => v = .int .i64 (i2 : Nat) ∧ w = wc)
      case first =>
        by_cases h48 : c1 = 48
        · have HJ : Hid ((i2 : Nat) = i1 + 1) := by have := HI2.out; rw [if_pos h48] at this; exact hid this
          clear hbad
          go_wp2_with fail
          go_meet
          case rel => exact ⟨by rw [HJ.out]; go_num, rfl⟩
        · have HJ : Hid (Plain.de z ((i1 : Int) + 1).toNat = i2) := by
            have := HI2.out; rw [if_neg h48] at this
            rw [show ((i1 : Int) + 1).toNat = i1 + 1 by omega]; exact hid this.symm
          have h49 : 49 ≤ c1 := by omega
          have h57 : c1 ≤ 57 := by omega
          clear hbad
          go_wp2_with (go_at_call 30; refine (digits_eq a z cap n _ _ i2 hn HBY.out hl (by omega) HJ).mono ?_; rintro e w' ⟨rfl, rfl⟩)
          go_meet
          case rel => exact ⟨rfl, rfl⟩
      case rest =>
        obtain ⟨rfl, rfl⟩ := hcut
        clear HI2 H1 hbad hlt
        obtain ⟨c2, hc2⟩ : ∃ x, z.getD i2 0 = x := ⟨_, rfl⟩
        have H2 : Hid (z.getD (i2 : Int).toNat 0 = c2) := by rw [Int.toNat_natCast]; exact hid hc2
        obtain ⟨d2, hd2⟩ : ∃ k : Nat, Plain.de z (i2 + 1) = k := ⟨_, rfl⟩
        have HD2 : Hid (Plain.de z ((i2 : Int) + 1).toNat = d2) := by rw [show ((i2 : Int) + 1).toNat = i2 + 1 by omega]; exact hid hd2
        have hd2n : d2 ≤ n + 1 := by
          by_cases h : i2 + 1 ≤ n
          · have := Plain.runE_le Plain.dg z (i2 + 1) (by rw [hn.out]; exact h); rw [← hd2]; have h2 := hn.out; unfold Plain.de; omega
          · have := Plain.runE_end Plain.dg z (i2 + 1) (by rw [hn.out]; omega); rw [← hd2]; unfold Plain.de; omega
        by_cases hfail : c2 = 46 ∧ d2 = i2 + 1
        · obtain ⟨h46, hd⟩ := hfail
          have HRn : Hid (R = -1) := by
            rw [← HR2.out]; unfold Plain.numF; rw [hc2, if_pos h46, hd2, if_pos hd]; exact hid rfl
          have HD := hid hd
          clear hd hc2 hd2 HR2
          have hde : ((d2 : Int) == (i2 : Int) + 1) = true := by have := HD.out; simp; omega
          subst h46
          go_wp2_with (first | (go_at_call 29; refine (at_eq a z cap n i2 _ 46 hn HBY.out hl (by omega) H2).mono ?_; rintro e w' ⟨rfl, rfl⟩) | (go_at_call 30; refine (digits_eq a z cap n _ _ d2 hn HBY.out hl (by omega) HD2).mono ?_; rintro e w' ⟨rfl, rfl⟩))
          go_ret
          exact ⟨by rw [HRn.out]; rfl, rfl⟩
        · obtain ⟨i3, hi3⟩ : ∃ k : Nat, k = if c2 = 46 then d2 else i2 := ⟨_, rfl⟩
          have hi3n : i3 ≤ n + 1 := by rw [hi3]; split <;> omega
          have HR3 : Hid (Plain.numE z i3 = R) := by
            rw [← HR2.out, hi3]; unfold Plain.numF; rw [hc2, hd2]
            by_cases h46 : c2 = 46
            · rw [if_pos h46, if_pos h46, if_neg (by omega)]; exact hid rfl
            · rw [if_neg h46, if_neg h46]; exact hid rfl
          have HI3 := hid hi3
          clear HR2 hi3 hc2 hd2
          go_upto_if 38 with (go_at_call 29; refine (at_eq a z cap n i2 _ c2 hn HBY.out hl (by omega) H2).mono ?_; rintro e w' ⟨rfl, rfl⟩)
          go_cut [1] from 10 (fun v wc => v = .int .i64 (i3 : Nat) ∧ w = wc)
          case first =>
            by_cases h46 : c2 = 46
            · have HJ : Hid ((i3 : Nat) = d2) := by have := HI3.out; rw [if_pos h46] at this; exact hid this
              have hde : ((d2 : Int) == (i2 : Int) + 1) = false := by simp; omega
              clear hfail
              go_wp2_with (go_at_call 30; refine (digits_eq a z cap n _ _ d2 hn HBY.out hl (by omega) HD2).mono ?_; rintro e w' ⟨rfl, rfl⟩)
              go_meet
              case rel => exact ⟨by rw [HJ.out], rfl⟩
            · have HJ : Hid ((i3 : Nat) = i2) := by have := HI3.out; rw [if_neg h46] at this; exact hid this
              clear hfail
              go_wp2_with fail
              go_meet
              case rel => exact ⟨by rw [HJ.out], rfl⟩
          case rest =>
            obtain ⟨rfl, rfl⟩ := hcut
            clear HI3 H2 HD2 hfail hd2n
            obtain ⟨c3, hc3⟩ : ∃ x, z.getD i3 0 = x := ⟨_, rfl⟩
            have H3 : Hid (z.getD (i3 : Int).toNat 0 = c3) := by rw [Int.toNat_natCast]; exact hid hc3
            by_cases he : c3 = 101 ∨ c3 = 69
            · obtain ⟨c4, hc4⟩ : ∃ x, z.getD (i3 + 1) 0 = x := ⟨_, rfl⟩
              have H4 : Hid (z.getD ((i3 : Int) + 1).toNat 0 = c4) := by rw [show ((i3 : Int) + 1).toNat = i3 + 1 by omega]; exact hid hc4
              obtain ⟨d, hd⟩ : ∃ k : Nat, Plain.de z (i3 + 1) = k := ⟨_, rfl⟩
              obtain ⟨d', hd'⟩ : ∃ k : Nat, Plain.de z (i3 + 2) = k := ⟨_, rfl⟩
              have HD : Hid (Plain.de z ((i3 : Int) + 1).toNat = d) := by rw [show ((i3 : Int) + 1).toNat = i3 + 1 by omega]; exact hid hd
              have HD' : Hid (Plain.de z ((i3 : Int) + 1 + 1).toNat = d') := by rw [show ((i3 : Int) + 1 + 1).toNat = i3 + 2 by omega]; exact hid hd'
              have hR : R = if c4 = 43 ∨ c4 = 45 then (if d' = i3 + 2 then -1 else (d' : Int)) else (if d = i3 + 1 then -1 else (d : Int)) := by
                rw [← HR3.out]; unfold Plain.numE; rw [hc3, if_pos he, hc4]
                by_cases hs : c4 = 43 ∨ c4 = 45
                · simp only [hs, if_true, hd']
                · simp only [hs, if_false, hd]
              have HR := hid hR
              clear hc3 hc4 hd hd' HR3 hR
              by_cases hs : c4 = 43 ∨ c4 = 45
              · by_cases hf : d' = i3 + 2
                · have HF : Hid (R = -1) := by rw [HR.out, if_pos hs, if_pos hf]; exact hid rfl
                  have hde : ((d' : Int) == (i3 : Int) + 1 + 1) = true := by simp; omega
                  clear hf HR
                  rcases he with rfl | rfl
                  all_goals
                    rcases hs with rfl | rfl
                    all_goals
                      go_wp2_with fail
                      refine (at_eq a z cap n i3 _ _ hn HBY.out hl (by omega) H3).mono ?_
                      rintro e w' ⟨rfl, rfl⟩
                      go_wp2_with fail
                      refine (at_eq a z cap n _ _ _ hn HBY.out hl (by omega) H4).mono ?_
                      rintro e w' ⟨rfl, rfl⟩
                      go_wp2_with fail
                      refine (digits_eq a z cap n _ _ d' hn HBY.out hl (by omega) HD').mono ?_
                      rintro e w' ⟨rfl, rfl⟩
                      go_wp2_with fail
                      go_ret
                      exact ⟨by rw [HF.out]; rfl, rfl⟩
                · have HF : Hid (R = (d' : Int)) := by rw [HR.out, if_pos hs, if_neg hf]; exact hid rfl
                  have hde : ((d' : Int) == (i3 : Int) + 1 + 1) = false := by simp; omega
                  clear hf HR
                  rcases he with rfl | rfl
                  all_goals
                    rcases hs with rfl | rfl
                    all_goals
                      go_wp2_with fail
                      refine (at_eq a z cap n i3 _ _ hn HBY.out hl (by omega) H3).mono ?_
                      rintro e w' ⟨rfl, rfl⟩
                      go_wp2_with fail
                      refine (at_eq a z cap n _ _ _ hn HBY.out hl (by omega) H4).mono ?_
                      rintro e w' ⟨rfl, rfl⟩
                      go_wp2_with fail
                      refine (digits_eq a z cap n _ _ d' hn HBY.out hl (by omega) HD').mono ?_
                      rintro e w' ⟨rfl, rfl⟩
                      go_wp2_with fail
                      go_ret
                      exact ⟨by rw [HF.out]; rfl, rfl⟩
              · have hs1 : ¬ c4 = 43 := fun h => hs (.inl h)
                have hs2 : ¬ c4 = 45 := fun h => hs (.inr h)
                have hsb : (c4 == 43 || c4 == 45) = false := by simp [hs1, hs2]
                by_cases hf : d = i3 + 1
                · have HF : Hid (R = -1) := by rw [HR.out, if_neg hs, if_pos hf]; exact hid rfl
                  have hde : ((d : Int) == (i3 : Int) + 1) = true := by simp; omega
                  clear hf HR hs
                  rcases he with rfl | rfl
                  all_goals
                    go_wp2_with fail
                    refine (at_eq a z cap n i3 _ _ hn HBY.out hl (by omega) H3).mono ?_
                    rintro e w' ⟨rfl, rfl⟩
                    go_wp2_with fail
                    refine (at_eq a z cap n _ _ c4 hn HBY.out hl (by omega) H4).mono ?_
                    rintro e w' ⟨rfl, rfl⟩
                    go_wp2_with fail
                    refine (digits_eq a z cap n _ _ d hn HBY.out hl (by omega) HD).mono ?_
                    rintro e w' ⟨rfl, rfl⟩
                    go_wp2_with fail
                    go_ret
                    exact ⟨by rw [HF.out]; rfl, rfl⟩
                · have HF : Hid (R = (d : Int)) := by rw [HR.out, if_neg hs, if_neg hf]; exact hid rfl
                  have hde : ((d : Int) == (i3 : Int) + 1) = false := by simp; omega
                  clear hf HR hs
                  rcases he with rfl | rfl
                  all_goals
                    go_wp2_with fail
                    refine (at_eq a z cap n i3 _ _ hn HBY.out hl (by omega) H3).mono ?_
                    rintro e w' ⟨rfl, rfl⟩
                    go_wp2_with fail
                    refine (at_eq a z cap n _ _ c4 hn HBY.out hl (by omega) H4).mono ?_
                    rintro e w' ⟨rfl, rfl⟩
                    go_wp2_with fail
                    refine (digits_eq a z cap n _ _ d hn HBY.out hl (by omega) HD).mono ?_
                    rintro e w' ⟨rfl, rfl⟩
                    go_wp2_with fail
                    go_ret
                    exact ⟨by rw [HF.out]; rfl, rfl⟩
            · have HF : Hid (R = (i3 : Int)) := by rw [← HR3.out]; unfold Plain.numE; rw [hc3, if_neg he]; exact hid rfl
              have he1 : ¬ c3 = 101 := fun h => he (.inl h)
              have he2 : ¬ c3 = 69 := fun h => he (.inr h)
              have heb : (c3 == 101 || c3 == 69) = false := by simp [he1, he2]
              clear hc3 HR3 he
              go_wp2_with (go_at_call 29; refine (at_eq a z cap n i3 _ c3 hn HBY.out hl (by omega) H3).mono ?_; rintro e w' ⟨rfl, rfl⟩)
              go_ret
              exact ⟨by rw [HF.out]; rfl, rfl⟩
    · have HRn : Hid (R = -1) := by
        rw [← HR.out]; unfold Plain.numI; rw [hc1, if_neg (by omega), if_neg (by omega)]; exact hid rfl
      have h48 : ¬ c1 = 48 := by omega
      clear HR hc1 hlt1
      by_cases h49 : 49 ≤ c1
      · have h57 : ¬ c1 ≤ 57 := by omega
        clear hbad
        go_wp2_with (go_at_call 29; refine (at_eq a z cap n i1 _ c1 hn HBY.out hl (by omega) H1).mono ?_; rintro e w' ⟨rfl, rfl⟩)
        go_ret
        exact ⟨by rw [HRn.out]; rfl, rfl⟩
      · clear hbad
        go_wp2_with (go_at_call 29; refine (at_eq a z cap n i1 _ c1 hn HBY.out hl (by omega) H1).mono ?_; rintro e w' ⟨rfl, rfl⟩)
        go_ret
        exact ⟨by rw [HRn.out]; rfl, rfl⟩

end Go.Proofs.Qxb6604007a
