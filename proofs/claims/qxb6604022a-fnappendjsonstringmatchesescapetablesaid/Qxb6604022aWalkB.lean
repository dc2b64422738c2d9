/-
  THE ESCAPE TABLE.
-/
import Derived.Test.Qxb6604022aWalkA
import Derived.Test.Qxb6604022aPlain
namespace Go.Proofs.Qxb6604022a
open Go.ChangeShapes Go.WideShapes Go.ChangeAt Go.RowKit
set_option linter.unusedVariables false

theorem hex_any (v : Int) (w : World) (h0 : 0 ≤ v) (h1 : v ≤ 15) (r : Int) (hr : Hid (Plain.hex v = r)) : Calls Try.prog 22 #[.int .u8 v] w fun e w' => e = .returned (.int .u8 r) ∧ w = w' := by
  by_cases h : v < 10
  · have HR : Hid (r = 48 + v) := by rw [← hr.out]; unfold Plain.hex; rw [if_pos h]; exact hid rfl
    clear hr
    go_enter Try.func22, Try.ntmps22
    go_wp2
    go_ret
    exact ⟨by rw [HR.out]; rfl, rfl⟩
  · have HR : Hid (r = 97 + v - 10) := by rw [← hr.out]; unfold Plain.hex; rw [if_neg h]; exact (by omega : (87 : Int) + v = 97 + v - 10)
    clear hr
    go_enter Try.func22, Try.ntmps22
    go_wp2
    go_ret
    exact ⟨by rw [HR.out]; rfl, rfl⟩

/-- what a writer of bytes leaves -/
def Wrote (w : World) (v : Value) (ys : List Int) (e : Ending) (w' : World) : Prop := ∃ v', e = .returned v' ∧ Grow w v.ownBlock w' v' ys

theorem esc_hex (c : Int) (hc : c < 32) (n8 : ¬ c = 8) (n9 : ¬ c = 9) (n10 : ¬ c = 10) (n12 : ¬ c = 12) (n13 : ¬ c = 13) : Plain.esc c = [92, 117, 48, 48, Plain.hex (c / 16), Plain.hex (c % 16)] := by
  unfold Plain.esc
  rw [if_neg (by omega), if_neg (by omega), if_neg n8, if_neg n12, if_neg n10, if_neg n13, if_neg n9, if_pos hc]

set_option maxHeartbeats 1000000 in
theorem escape_hex (v : Value) (xs : List Int) (c : Int) (w : World) (h : Own w v xs) (hl : xs.length ≤ 1073741824) (h0 : 0 ≤ c) (hc : c < 32) (n8 : ¬ c = 8) (n9 : ¬ c = 9) (n10 : ¬ c = 10) (n12 : ¬ c = 12) (n13 : ¬ c = 13) :
    Calls Try.prog 9 #[v, .int .u8 c] w fun e w' => Wrote w v (xs ++ Plain.esc c) e w' := by
  have HE := hid (esc_hex c hc n8 n9 n10 n12 n13)
  have HG := hid (Grow.start h)
  obtain ⟨d1, hd1⟩ : ∃ d, Plain.hex (c / 16) = d := ⟨_, rfl⟩
  obtain ⟨d2, hd2⟩ : ∃ d, Plain.hex (c % 16) = d := ⟨_, rfl⟩
  rw [hd1, hd2] at HE
  have HD1 := hid hd1
  have HD2 := hid hd2
  clear hd1 hd2 h
  go_enter Try.func9, Try.ntmps9
  go_wp2_with fail
  refine (hex_any (c / 16) _ (by omega) (by omega) _ HD1).mono ?_
  rintro e w' ⟨rfl, rfl⟩
  go_wp2_with fail
  refine (hex_any (c % 16) _ (by omega) (by omega) _ HD2).mono ?_
  rintro e w' ⟨rfl, rfl⟩
  go_wp2_with (at_builtin; refine wp_app rfl (.tmp 50) (.tmp 57) rfl rfl (HG.out.alloc _) rfl [92, 117, 48, 48, d1, d2] rfl (Bytes.new _ _) (fun h => nomatch h) (by simp; omega) ?_; intro v1 w1 hG1)
  go_ret
  exact ⟨_, rfl, by rw [HE.out]; exact hG1⟩

theorem escape_34 (v : Value) (xs : List Int) (w : World) (h : Own w v xs) (hl : xs.length ≤ 1073741824) :
    Calls Try.prog 9 #[v, .int .u8 34] w fun e w' => Wrote w v (xs ++ Plain.esc 34) e w' := by
  have HE : Hid (Plain.esc 34 = [92, 34]) := by unfold Plain.esc; simp; exact hid trivial
  have HG := hid (Grow.start h)
  clear h
  go_enter Try.func9, Try.ntmps9
  go_wp2_with (at_builtin; refine wp_app rfl (.tmp 8) (.tmp 9) rfl rfl (HG.out.alloc _) rfl [92, 34] rfl (Bytes.new _ _) (fun h => nomatch h) (by simp; omega) ?_; intro v1 w1 hG1)
  go_ret
  exact ⟨_, rfl, by rw [HE.out]; exact hG1⟩

theorem escape_92 (v : Value) (xs : List Int) (w : World) (h : Own w v xs) (hl : xs.length ≤ 1073741824) :
    Calls Try.prog 9 #[v, .int .u8 92] w fun e w' => Wrote w v (xs ++ Plain.esc 92) e w' := by
  have HE : Hid (Plain.esc 92 = [92, 92]) := by unfold Plain.esc; simp; exact hid trivial
  have HG := hid (Grow.start h)
  clear h
  go_enter Try.func9, Try.ntmps9
  go_wp2_with (at_builtin; refine wp_app rfl (.tmp 14) (.tmp 15) rfl rfl (HG.out.alloc _) rfl [92, 92] rfl (Bytes.new _ _) (fun h => nomatch h) (by simp; omega) ?_; intro v1 w1 hG1)
  go_ret
  exact ⟨_, rfl, by rw [HE.out]; exact hG1⟩

theorem escape_8 (v : Value) (xs : List Int) (w : World) (h : Own w v xs) (hl : xs.length ≤ 1073741824) :
    Calls Try.prog 9 #[v, .int .u8 8] w fun e w' => Wrote w v (xs ++ Plain.esc 8) e w' := by
  have HE : Hid (Plain.esc 8 = [92, 98]) := by unfold Plain.esc; simp; exact hid trivial
  have HG := hid (Grow.start h)
  clear h
  go_enter Try.func9, Try.ntmps9
  go_wp2_with (at_builtin; refine wp_app rfl (.tmp 20) (.tmp 21) rfl rfl (HG.out.alloc _) rfl [92, 98] rfl (Bytes.new _ _) (fun h => nomatch h) (by simp; omega) ?_; intro v1 w1 hG1)
  go_ret
  exact ⟨_, rfl, by rw [HE.out]; exact hG1⟩

theorem escape_12 (v : Value) (xs : List Int) (w : World) (h : Own w v xs) (hl : xs.length ≤ 1073741824) :
    Calls Try.prog 9 #[v, .int .u8 12] w fun e w' => Wrote w v (xs ++ Plain.esc 12) e w' := by
  have HE : Hid (Plain.esc 12 = [92, 102]) := by unfold Plain.esc; simp; exact hid trivial
  have HG := hid (Grow.start h)
  clear h
  go_enter Try.func9, Try.ntmps9
  go_wp2_with (at_builtin; refine wp_app rfl (.tmp 26) (.tmp 27) rfl rfl (HG.out.alloc _) rfl [92, 102] rfl (Bytes.new _ _) (fun h => nomatch h) (by simp; omega) ?_; intro v1 w1 hG1)
  go_ret
  exact ⟨_, rfl, by rw [HE.out]; exact hG1⟩

theorem escape_10 (v : Value) (xs : List Int) (w : World) (h : Own w v xs) (hl : xs.length ≤ 1073741824) :
    Calls Try.prog 9 #[v, .int .u8 10] w fun e w' => Wrote w v (xs ++ Plain.esc 10) e w' := by
  have HE : Hid (Plain.esc 10 = [92, 110]) := by unfold Plain.esc; simp; exact hid trivial
  have HG := hid (Grow.start h)
  clear h
  go_enter Try.func9, Try.ntmps9
  go_wp2_with (at_builtin; refine wp_app rfl (.tmp 32) (.tmp 33) rfl rfl (HG.out.alloc _) rfl [92, 110] rfl (Bytes.new _ _) (fun h => nomatch h) (by simp; omega) ?_; intro v1 w1 hG1)
  go_ret
  exact ⟨_, rfl, by rw [HE.out]; exact hG1⟩

theorem escape_13 (v : Value) (xs : List Int) (w : World) (h : Own w v xs) (hl : xs.length ≤ 1073741824) :
    Calls Try.prog 9 #[v, .int .u8 13] w fun e w' => Wrote w v (xs ++ Plain.esc 13) e w' := by
  have HE : Hid (Plain.esc 13 = [92, 114]) := by unfold Plain.esc; simp; exact hid trivial
  have HG := hid (Grow.start h)
  clear h
  go_enter Try.func9, Try.ntmps9
  go_wp2_with (at_builtin; refine wp_app rfl (.tmp 38) (.tmp 39) rfl rfl (HG.out.alloc _) rfl [92, 114] rfl (Bytes.new _ _) (fun h => nomatch h) (by simp; omega) ?_; intro v1 w1 hG1)
  go_ret
  exact ⟨_, rfl, by rw [HE.out]; exact hG1⟩

theorem escape_9 (v : Value) (xs : List Int) (w : World) (h : Own w v xs) (hl : xs.length ≤ 1073741824) :
    Calls Try.prog 9 #[v, .int .u8 9] w fun e w' => Wrote w v (xs ++ Plain.esc 9) e w' := by
  have HE : Hid (Plain.esc 9 = [92, 116]) := by unfold Plain.esc; simp; exact hid trivial
  have HG := hid (Grow.start h)
  clear h
  go_enter Try.func9, Try.ntmps9
  go_wp2_with (at_builtin; refine wp_app rfl (.tmp 44) (.tmp 45) rfl rfl (HG.out.alloc _) rfl [92, 116] rfl (Bytes.new _ _) (fun h => nomatch h) (by simp; omega) ?_; intro v1 w1 hG1)
  go_ret
  exact ⟨_, rfl, by rw [HE.out]; exact hG1⟩

set_option maxHeartbeats 1000000 in
theorem escape_plain (v : Value) (xs : List Int) (c : Int) (w : World) (h : Own w v xs) (hl : xs.length ≤ 1073741824) (hc : 32 ≤ c) (n34 : ¬ c = 34) (n92 : ¬ c = 92) :
    Calls Try.prog 9 #[v, .int .u8 c] w fun e w' => Wrote w v (xs ++ Plain.esc c) e w' := by
  have HE := hid (Plain.esc_plain c (by simp [Plain.sp, n34, n92]; omega))
  have HG := hid (Grow.start h)
  clear h
  go_enter Try.func9, Try.ntmps9
  go_wp2_with (at_builtin; refine wp_app rfl (.tmp 59) (.tmp 61) rfl rfl (HG.out.alloc _) rfl [c] rfl (Bytes.new _ _) (fun h => nomatch h) (by simp; omega) ?_; intro v1 w1 hG1)
  go_ret
  exact ⟨_, rfl, by rw [HE.out]; exact hG1⟩

theorem escape_any (v : Value) (xs : List Int) (c : Int) (w : World) (h : Own w v xs) (hl : xs.length ≤ 1073741824) (h0 : 0 ≤ c) :
    Calls Try.prog 9 #[v, .int .u8 c] w fun e w' => Wrote w v (xs ++ Plain.esc c) e w' := by
  by_cases c34 : c = 34
  · subst c34; exact escape_34 v xs w h hl
  by_cases c92 : c = 92
  · subst c92; exact escape_92 v xs w h hl
  by_cases c8 : c = 8
  · subst c8; exact escape_8 v xs w h hl
  by_cases c12 : c = 12
  · subst c12; exact escape_12 v xs w h hl
  by_cases c10 : c = 10
  · subst c10; exact escape_10 v xs w h hl
  by_cases c13 : c = 13
  · subst c13; exact escape_13 v xs w h hl
  by_cases c9 : c = 9
  · subst c9; exact escape_9 v xs w h hl
  by_cases hc : c < 32
  · exact escape_hex v xs c w h hl h0 hc c8 c9 c10 c12 c13
  · exact escape_plain v xs c w h hl (by omega) c34 c92

end Go.Proofs.Qxb6604022a
