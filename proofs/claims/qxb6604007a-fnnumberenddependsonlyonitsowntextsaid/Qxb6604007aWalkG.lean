/-
  THE AUTOMATON's STEP.
-/
import Derived.Test.Qxb6604007aWalkF
namespace Go.Proofs.Qxb6604007a
open Go.ChangeShapes Go.WideShapes Go.ChangeAt Go.RowKit
set_option linter.unusedVariables false

theorem isdigit_yes (c : Int) (w : World) (h1 : 48 ≤ c) (h2 : c ≤ 57) : Calls Try.prog 14 #[.int .u8 c] w fun e w' => e = .returned (.bool true) ∧ w = w' := by
  go_enter Try.func14, Try.ntmps14
  go_wp2
  go_ret
  exact ⟨by simp, rfl⟩
theorem isdigit_no (c : Int) (w : World) (h : ¬ (48 ≤ c ∧ c ≤ 57)) : Calls Try.prog 14 #[.int .u8 c] w fun e w' => e = .returned (.bool false) ∧ w = w' := by
  by_cases h1 : 48 ≤ c
  · have h2 : ¬ c ≤ 57 := by omega
    clear h
    go_enter Try.func14, Try.ntmps14
    go_wp2
    go_ret
    exact ⟨by simp, rfl⟩
  · clear h
    go_enter Try.func14, Try.ntmps14
    go_wp2
    go_ret
    exact ⟨rfl, rfl⟩

theorem firstdigit_any (c : Int) (w : World) (r : Int) (hr : Hid (Plain.firstD c = r)) : Calls Try.prog 31 #[.int .u8 c] w fun e w' => e = .returned (.int .i64 r) ∧ w = w' := by
  by_cases h0 : c = 48
  · have HR : Hid (r = 2) := by rw [← hr.out]; unfold Plain.firstD; rw [if_pos h0]; exact (rfl : (2 : Int) = 2)
    go_enter Try.func31, Try.ntmps31
    go_wp2
    go_ret
    exact ⟨by rw [HR.out]; rfl, rfl⟩
  · by_cases h1 : 49 ≤ c
    · by_cases h2 : c ≤ 57
      · have HR : Hid (r = 3) := by rw [← hr.out]; unfold Plain.firstD; rw [if_neg h0, if_pos ⟨h1, h2⟩]; exact (rfl : (3 : Int) = 3)
        go_enter Try.func31, Try.ntmps31
        go_wp2
        go_ret
        exact ⟨by rw [HR.out]; rfl, rfl⟩
      · have HR : Hid (r = 9) := by rw [← hr.out]; unfold Plain.firstD; rw [if_neg h0, if_neg (by omega)]; exact (rfl : (9 : Int) = 9)
        go_enter Try.func31, Try.ntmps31
        go_wp2
        go_ret
        exact ⟨by rw [HR.out]; rfl, rfl⟩
    · have HR : Hid (r = 9) := by rw [← hr.out]; unfold Plain.firstD; rw [if_neg h0, if_neg (by omega)]; exact (rfl : (9 : Int) = 9)
      go_enter Try.func31, Try.ntmps31
      go_wp2
      go_ret
      exact ⟨by rw [HR.out]; rfl, rfl⟩

set_option maxHeartbeats 1000000 in
theorem step0 (c : Int) (w : World) (r : Int) (hr : Hid (Plain.step 0 c = r)) : Calls Try.prog 24 #[.int .i64 0, .int .u8 c] w fun e w' => e = .returned (.int .i64 r) ∧ w = w' := by
  by_cases h45 : c = 45
  · subst h45
    have HR : Hid (r = 1) := hid (hr.out.symm.trans (by simp [Plain.step]))
    clear hr
    go_enter Try.func24, Try.ntmps24
    go_wp2_with fail
    go_ret
    exact ⟨by rw [HR.out]; rfl, rfl⟩
  · have HR : Hid (Plain.firstD c = r) := hid ((by simp [Plain.step, h45] : Plain.firstD c = Plain.step 0 c).trans hr.out)
    clear hr
    go_enter Try.func24, Try.ntmps24
    go_wp2_with (go_at_call 31; refine (firstdigit_any c _ r HR).mono ?_; rintro e w' ⟨rfl, rfl⟩)
    go_ret
    exact ⟨rfl, rfl⟩

set_option maxHeartbeats 1000000 in
theorem step1 (c : Int) (w : World) (r : Int) (hr : Hid (Plain.step 1 c = r)) : Calls Try.prog 24 #[.int .i64 1, .int .u8 c] w fun e w' => e = .returned (.int .i64 r) ∧ w = w' := by
  have HR : Hid (Plain.firstD c = r) := hid ((by simp [Plain.step] : Plain.firstD c = Plain.step 1 c).trans hr.out)
  clear hr
  go_enter Try.func24, Try.ntmps24
  go_wp2_with (go_at_call 31; refine (firstdigit_any c _ r HR).mono ?_; rintro e w' ⟨rfl, rfl⟩)
  go_ret
  exact ⟨rfl, rfl⟩

set_option maxHeartbeats 1000000 in
theorem step2 (c : Int) (w : World) (r : Int) (hr : Hid (Plain.step 2 c = r)) : Calls Try.prog 24 #[.int .i64 2, .int .u8 c] w fun e w' => e = .returned (.int .i64 r) ∧ w = w' := by
  by_cases h46 : c = 46
  · subst h46
    have HR : Hid (r = 4) := hid (hr.out.symm.trans (by simp [Plain.step]))
    clear hr
    go_enter Try.func24, Try.ntmps24
    go_wp2_with fail
    go_ret
    exact ⟨by rw [HR.out]; rfl, rfl⟩
  by_cases h101 : c = 101
  · subst h101
    have HR : Hid (r = 6) := hid (hr.out.symm.trans (by simp [Plain.step]))
    clear hr
    go_enter Try.func24, Try.ntmps24
    go_wp2_with fail
    go_ret
    exact ⟨by rw [HR.out]; rfl, rfl⟩
  by_cases h69 : c = 69
  · subst h69
    have HR : Hid (r = 6) := hid (hr.out.symm.trans (by simp [Plain.step]))
    clear hr
    go_enter Try.func24, Try.ntmps24
    go_wp2_with fail
    go_ret
    exact ⟨by rw [HR.out]; rfl, rfl⟩
  have hb : (c == 101 || c == 69) = false := by simp [h101, h69]
  have HR : Hid (r = 9) := hid (hr.out.symm.trans (by simp [Plain.step, h46, h101, h69]))
  clear hr
  go_enter Try.func24, Try.ntmps24
  go_wp2_with fail
  go_ret
  exact ⟨by rw [HR.out]; rfl, rfl⟩

set_option maxHeartbeats 1000000 in
theorem step3 (c : Int) (w : World) (r : Int) (hr : Hid (Plain.step 3 c = r)) : Calls Try.prog 24 #[.int .i64 3, .int .u8 c] w fun e w' => e = .returned (.int .i64 r) ∧ w = w' := by
  by_cases hd : 48 ≤ c ∧ c ≤ 57
  · have hg := (Plain.dg_iff c).2 hd
    have HG := hid hg
    clear hg
    have HR : Hid (r = 3) := hid (hr.out.symm.trans (by simp [Plain.step, HG.out]))
    clear hr
    go_enter Try.func24, Try.ntmps24
    go_wp2_with (go_at_call 14; refine (isdigit_yes c _ hd.1 hd.2).mono ?_; rintro e w' ⟨rfl, rfl⟩)
    go_ret
    exact ⟨by rw [HR.out]; rfl, rfl⟩
  have HG := hid ((Plain.dg_no c).2 hd)
  by_cases h46 : c = 46
  · subst h46
    have HR : Hid (r = 4) := hid (hr.out.symm.trans (by simp [Plain.step, HG.out]))
    clear hr
    go_enter Try.func24, Try.ntmps24
    go_wp2_with (go_at_call 14; refine (isdigit_no 46 _ hd).mono ?_; rintro e w' ⟨rfl, rfl⟩)
    go_ret
    exact ⟨by rw [HR.out]; rfl, rfl⟩
  by_cases h101 : c = 101
  · subst h101
    have HR : Hid (r = 6) := hid (hr.out.symm.trans (by simp [Plain.step, HG.out]))
    clear hr
    go_enter Try.func24, Try.ntmps24
    go_wp2_with (go_at_call 14; refine (isdigit_no 101 _ hd).mono ?_; rintro e w' ⟨rfl, rfl⟩)
    go_ret
    exact ⟨by rw [HR.out]; rfl, rfl⟩
  by_cases h69 : c = 69
  · subst h69
    have HR : Hid (r = 6) := hid (hr.out.symm.trans (by simp [Plain.step, HG.out]))
    clear hr
    go_enter Try.func24, Try.ntmps24
    go_wp2_with (go_at_call 14; refine (isdigit_no 69 _ hd).mono ?_; rintro e w' ⟨rfl, rfl⟩)
    go_ret
    exact ⟨by rw [HR.out]; rfl, rfl⟩
  have hb : (c == 101 || c == 69) = false := by simp [h101, h69]
  have HR : Hid (r = 9) := hid (hr.out.symm.trans (by simp [Plain.step, HG.out, h46, h101, h69]))
  clear hr
  go_enter Try.func24, Try.ntmps24
  go_wp2_with (go_at_call 14; refine (isdigit_no c _ hd).mono ?_; rintro e w' ⟨rfl, rfl⟩)
  go_ret
  exact ⟨by rw [HR.out]; rfl, rfl⟩

set_option maxHeartbeats 1000000 in
theorem step4 (c : Int) (w : World) (r : Int) (hr : Hid (Plain.step 4 c = r)) : Calls Try.prog 24 #[.int .i64 4, .int .u8 c] w fun e w' => e = .returned (.int .i64 r) ∧ w = w' := by
  by_cases hd : 48 ≤ c ∧ c ≤ 57
  · have HG := hid ((Plain.dg_iff c).2 hd)
    have HR : Hid (r = 5) := hid (hr.out.symm.trans (by simp [Plain.step, HG.out]))
    clear hr
    go_enter Try.func24, Try.ntmps24
    go_wp2_with (go_at_call 14; refine (isdigit_yes c _ hd.1 hd.2).mono ?_; rintro e w' ⟨rfl, rfl⟩)
    go_ret
    exact ⟨by rw [HR.out]; rfl, rfl⟩
  have HG := hid ((Plain.dg_no c).2 hd)
  have HR : Hid (r = 9) := hid (hr.out.symm.trans (by simp [Plain.step, HG.out]))
  clear hr
  go_enter Try.func24, Try.ntmps24
  go_wp2_with (go_at_call 14; refine (isdigit_no c _ hd).mono ?_; rintro e w' ⟨rfl, rfl⟩)
  go_ret
  exact ⟨by rw [HR.out]; rfl, rfl⟩

set_option maxHeartbeats 1000000 in
theorem step5 (c : Int) (w : World) (r : Int) (hr : Hid (Plain.step 5 c = r)) : Calls Try.prog 24 #[.int .i64 5, .int .u8 c] w fun e w' => e = .returned (.int .i64 r) ∧ w = w' := by
  by_cases hd : 48 ≤ c ∧ c ≤ 57
  · have HG := hid ((Plain.dg_iff c).2 hd)
    have HR : Hid (r = 5) := hid (hr.out.symm.trans (by simp [Plain.step, HG.out]))
    clear hr
    go_enter Try.func24, Try.ntmps24
    go_wp2_with (go_at_call 14; refine (isdigit_yes c _ hd.1 hd.2).mono ?_; rintro e w' ⟨rfl, rfl⟩)
    go_ret
    exact ⟨by rw [HR.out]; rfl, rfl⟩
  have HG := hid ((Plain.dg_no c).2 hd)
  by_cases h101 : c = 101
  · subst h101
    have HR : Hid (r = 6) := hid (hr.out.symm.trans (by simp [Plain.step, HG.out]))
    clear hr
    go_enter Try.func24, Try.ntmps24
    go_wp2_with (go_at_call 14; refine (isdigit_no 101 _ hd).mono ?_; rintro e w' ⟨rfl, rfl⟩)
    go_ret
    exact ⟨by rw [HR.out]; rfl, rfl⟩
  by_cases h69 : c = 69
  · subst h69
    have HR : Hid (r = 6) := hid (hr.out.symm.trans (by simp [Plain.step, HG.out]))
    clear hr
    go_enter Try.func24, Try.ntmps24
    go_wp2_with (go_at_call 14; refine (isdigit_no 69 _ hd).mono ?_; rintro e w' ⟨rfl, rfl⟩)
    go_ret
    exact ⟨by rw [HR.out]; rfl, rfl⟩
  have hb : (c == 101 || c == 69) = false := by simp [h101, h69]
  have HR : Hid (r = 9) := hid (hr.out.symm.trans (by simp [Plain.step, HG.out, h101, h69]))
  clear hr
  go_enter Try.func24, Try.ntmps24
  go_wp2_with (go_at_call 14; refine (isdigit_no c _ hd).mono ?_; rintro e w' ⟨rfl, rfl⟩)
  go_ret
  exact ⟨by rw [HR.out]; rfl, rfl⟩

set_option maxHeartbeats 1000000 in
theorem step6 (c : Int) (w : World) (r : Int) (hr : Hid (Plain.step 6 c = r)) : Calls Try.prog 24 #[.int .i64 6, .int .u8 c] w fun e w' => e = .returned (.int .i64 r) ∧ w = w' := by
  by_cases h43 : c = 43
  · subst h43
    have HR : Hid (r = 7) := hid (hr.out.symm.trans (by simp [Plain.step]))
    clear hr
    go_enter Try.func24, Try.ntmps24
    go_wp2_with fail
    go_ret
    exact ⟨by rw [HR.out]; rfl, rfl⟩
  by_cases h45 : c = 45
  · subst h45
    have HR : Hid (r = 7) := hid (hr.out.symm.trans (by simp [Plain.step]))
    clear hr
    go_enter Try.func24, Try.ntmps24
    go_wp2_with fail
    go_ret
    exact ⟨by rw [HR.out]; rfl, rfl⟩
  have hb : (c == 43 || c == 45) = false := by simp [h43, h45]
  by_cases hd : 48 ≤ c ∧ c ≤ 57
  · have HG := hid ((Plain.dg_iff c).2 hd)
    have HR : Hid (r = 8) := hid (hr.out.symm.trans (by simp [Plain.step, HG.out, h43, h45]))
    clear hr
    go_enter Try.func24, Try.ntmps24
    go_wp2_with (go_at_call 14; refine (isdigit_yes c _ hd.1 hd.2).mono ?_; rintro e w' ⟨rfl, rfl⟩)
    go_ret
    exact ⟨by rw [HR.out]; rfl, rfl⟩
  have HG := hid ((Plain.dg_no c).2 hd)
  have HR : Hid (r = 9) := hid (hr.out.symm.trans (by simp [Plain.step, HG.out, h43, h45]))
  clear hr
  go_enter Try.func24, Try.ntmps24
  go_wp2_with (go_at_call 14; refine (isdigit_no c _ hd).mono ?_; rintro e w' ⟨rfl, rfl⟩)
  go_ret
  exact ⟨by rw [HR.out]; rfl, rfl⟩

set_option maxHeartbeats 1000000 in
theorem step7 (c : Int) (w : World) (r : Int) (hr : Hid (Plain.step 7 c = r)) : Calls Try.prog 24 #[.int .i64 7, .int .u8 c] w fun e w' => e = .returned (.int .i64 r) ∧ w = w' := by
  by_cases hd : 48 ≤ c ∧ c ≤ 57
  · have HG := hid ((Plain.dg_iff c).2 hd)
    have HR : Hid (r = 8) := hid (hr.out.symm.trans (by simp [Plain.step, HG.out]))
    clear hr
    go_enter Try.func24, Try.ntmps24
    go_wp2_with (go_at_call 14; refine (isdigit_yes c _ hd.1 hd.2).mono ?_; rintro e w' ⟨rfl, rfl⟩)
    go_ret
    exact ⟨by rw [HR.out]; rfl, rfl⟩
  have HG := hid ((Plain.dg_no c).2 hd)
  have HR : Hid (r = 9) := hid (hr.out.symm.trans (by simp [Plain.step, HG.out]))
  clear hr
  go_enter Try.func24, Try.ntmps24
  go_wp2_with (go_at_call 14; refine (isdigit_no c _ hd).mono ?_; rintro e w' ⟨rfl, rfl⟩)
  go_ret
  exact ⟨by rw [HR.out]; rfl, rfl⟩

set_option maxHeartbeats 1000000 in
theorem step8 (c : Int) (w : World) (r : Int) (hr : Hid (Plain.step 8 c = r)) : Calls Try.prog 24 #[.int .i64 8, .int .u8 c] w fun e w' => e = .returned (.int .i64 r) ∧ w = w' := by
  by_cases hd : 48 ≤ c ∧ c ≤ 57
  · have HG := hid ((Plain.dg_iff c).2 hd)
    have HR : Hid (r = 8) := hid (hr.out.symm.trans (by simp [Plain.step, HG.out]))
    clear hr
    go_enter Try.func24, Try.ntmps24
    go_wp2_with (go_at_call 14; refine (isdigit_yes c _ hd.1 hd.2).mono ?_; rintro e w' ⟨rfl, rfl⟩)
    go_ret
    exact ⟨by rw [HR.out]; rfl, rfl⟩
  have HG := hid ((Plain.dg_no c).2 hd)
  have HR : Hid (r = 9) := hid (hr.out.symm.trans (by simp [Plain.step, HG.out]))
  clear hr
  go_enter Try.func24, Try.ntmps24
  go_wp2_with (go_at_call 14; refine (isdigit_no c _ hd).mono ?_; rintro e w' ⟨rfl, rfl⟩)
  go_ret
  exact ⟨by rw [HR.out]; rfl, rfl⟩

theorem step_any (s c : Int) (w : World) (r : Int) (h0 : 0 ≤ s) (h8 : s ≤ 8) (hr : Hid (Plain.step s c = r)) :
    Calls Try.prog 24 #[.int .i64 s, .int .u8 c] w fun e w' => e = .returned (.int .i64 r) ∧ w = w' := by
  have h : s = 0 ∨ s = 1 ∨ s = 2 ∨ s = 3 ∨ s = 4 ∨ s = 5 ∨ s = 6 ∨ s = 7 ∨ s = 8 := by omega
  rcases h with rfl | rfl | rfl | rfl | rfl | rfl | rfl | rfl | rfl
  · exact step0 c w r hr
  · exact step1 c w r hr
  · exact step2 c w r hr
  · exact step3 c w r hr
  · exact step4 c w r hr
  · exact step5 c w r hr
  · exact step6 c w r hr
  · exact step7 c w r hr
  · exact step8 c w r hr

end Go.Proofs.Qxb6604007a
