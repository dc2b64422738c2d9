/-
  THE DECODER, over what was written.
-/
import Derived.Test.Qxb6604022aWalkE
namespace Go.Proofs.Qxb6604022a
open Go.ChangeShapes Go.WideShapes Go.ChangeAt Go.RowKit
set_option linter.unusedVariables false

/-- the JSON string of a text -/
def quoted (t : List Int) : List Int := [34] ++ t.flatMap Plain.esc ++ [34]
theorem quoted_split (t : List Int) (k : Nat) (h : k < t.length) (c : Int) (hc : t.getD k 0 = c) : ∃ r, quoted t = (34 :: F t k) ++ (Plain.esc c ++ (r ++ [34])) := by
  refine ⟨(t.drop (k + 1)).flatMap Plain.esc, ?_⟩
  have e : t = t.take (k + 1) ++ t.drop (k + 1) := (List.take_append_drop _ _).symm
  unfold quoted
  conv => lhs; rw [e]
  rw [List.flatMap_append]
  have := F_succ t k h c hc
  unfold F at this
  rw [this]
  simp [F]
theorem quoted_at (t : List Int) (k : Nat) (h : k < t.length) (c : Int) (hc : t.getD k 0 = c) (j : Nat) (hj : j < (Plain.esc c).length) : (quoted t).getD (1 + (F t k).length + j) 0 = (Plain.esc c).getD j 0 := by
  obtain ⟨r, hr⟩ := quoted_split t k h c hc
  rw [hr, List.getD_eq_getElem?_getD, List.getElem?_append_right (by simp; omega)]
  rw [show 1 + (F t k).length + j - (34 :: F t k).length = j by simp; omega, List.getElem?_append_left hj]
  rfl
theorem quoted_room (t : List Int) (k : Nat) (h : k < t.length) (c : Int) (hc : t.getD k 0 = c) : 1 + (F t k).length + (Plain.esc c).length ≤ (quoted t).length - 1 := by
  obtain ⟨r, hr⟩ := quoted_split t k h c hc
  rw [hr]; simp; omega
theorem quoted_end (t : List Int) (k : Nat) (h : k = t.length) : 1 + (F t k).length = (quoted t).length - 1 := by
  subst h; rw [F_all]; unfold quoted; simp; omega
theorem quoted_len (t : List Int) : t.length + 2 ≤ (quoted t).length ∧ (quoted t).length ≤ 6 * t.length + 2 := by
  have := Plain.flat_le t
  unfold quoted
  simp only [List.length_append, List.length_cons, List.length_nil]
  omega
theorem quoted_first (t : List Int) : (quoted t).getD 0 0 = 34 := by simp [quoted]
theorem quoted_last (t : List Int) : (quoted t).getD ((quoted t).length - 1) 0 = 34 := by
  unfold quoted
  rw [List.getD_eq_getElem?_getD, List.getElem?_append_right (by simp)]
  simp
theorem F_pos (t : List Int) (k : Nat) (h : k < t.length) (c : Int) (hc : t.getD k 0 = c) : (F t (k + 1)).length = (F t k).length + (Plain.esc c).length := by
  rw [F_succ t k h c hc, List.length_append]
theorem take_succ_getD (t : List Int) (k : Nat) (h : k < t.length) (c : Int) (hc : t.getD k 0 = c) : t.take (k + 1) = t.take k ++ [c] := by
  rw [List.take_add_one]
  congr 1
  simp [List.getD, h] at hc
  simp [h, hc]

theorem hexv_any (c v : Int) (w : World) (h0 : 0 ≤ v) (h1 : v ≤ 15) (hc : Hid (Plain.hex v = c)) : Calls Try.prog 24 #[.int .u8 c] w fun e w' => e = .returned (.int .i64 v) ∧ w = w' := by
  by_cases h : v < 10
  · have hv : v = c - 48 := by have := hc.out; unfold Plain.hex at this; rw [if_pos h] at this; omega
    have g1 : 48 ≤ c := by omega
    have g2 : c ≤ 57 := by omega
    clear hc h h0 h1
    subst hv
    go_enter Try.func24, Try.ntmps24
    go_wp2
    go_ret
    exact ⟨rfl, rfl⟩
  · have hv : v = c - 97 + 10 := by have := hc.out; unfold Plain.hex at this; rw [if_neg h] at this; omega
    have g1 : 97 ≤ c := by omega
    have g2 : c ≤ 102 := by omega
    have g3 : ¬ c ≤ 57 := by omega
    clear hc h h0 h1
    subst hv
    go_enter Try.func24, Try.ntmps24
    go_wp2
    go_ret
    exact ⟨rfl, rfl⟩

/-- what the decoder leaves -/
def Read (w : World) (ys : List Int) (e : Ending) (w' : World) : Prop := ∃ v', e = .returned (.tuple #[v', .bool true]) ∧ Grow w none w' v' ys

/-- the number that the first m of the four hex digits spell -/
def hv (c : Int) (m : Nat) : Int := if m ≤ 2 then 0 else if m = 3 then c / 16 else c

set_option maxRecDepth 100000 in
set_option maxHeartbeats 8000000 in
theorem unquote_any (a : Option Addr) (t : List Int) (n cap : Nat) (w : World) (hn : Hid ((quoted t).length = n)) (hq : Bytes w a (quoted t)) (htl : t.length ≤ 1048576) (hby : ∀ c ∈ t, 0 ≤ c ∧ c ≤ 255) :
    Calls Try.prog 13 #[.slice a n cap] w fun e w' => Read w t e w' := by
  have hql := quoted_len t
  have hn2 : 2 ≤ n := by have := hn.out; omega
  have hnl : n ≤ 6291458 := by have := hn.out; omega
  obtain ⟨b, off, rfl, hc⟩ := hq.open (by omega)
  have HQ := hid hq
  have HC := hid hc
  have hc0 := hc 0 (by omega)
  rw [quoted_first] at hc0
  simp only [Nat.add_zero] at hc0
  have hc1 := hc (n - 1) (by have := hn.out; omega)
  rw [← hn.out, quoted_last, hn.out] at hc1
  have HBY := hid hby
  have HG0 : Hid (Grow w none w (.slice none 0 0) []) := Grow.start (Own.nil w)
  obtain ⟨tl, htl0⟩ : ∃ tl, tl = t.length := ⟨_, rfl⟩
  have HTL := hid htl0
  clear hq hc hby hql htl0
  go_enter Try.func13, Try.ntmps13
  go_wp2
  go_loopw [5, 6] (fun v i wr => ∃ k p : Nat, k ≤ tl ∧ i = .int .i64 p ∧ p = 1 + (F t k).length ∧ Grow w none wr v (t.take k)) (fun _ i _ => n - (intOf i).toNat)
  case atStart => exact ⟨0, 1, Nat.zero_le _, rfl, by rw [F_zero]; rfl, HG0.out⟩
  case round =>
    clear hc0 hc1 HG0
    obtain ⟨k, p, hk, rfl, hp, hG⟩ := hrel
    have HP := hid hp
    have HG := hid hG
    have htk : (t.take k).length ≤ 1048576 := by simp; omega
    clear hp hG
    by_cases hlt : k < tl
    · have hkl : k < t.length := by have := HTL.out; omega
      obtain ⟨c, hc⟩ : ∃ c, t.getD k 0 = c := ⟨_, rfl⟩
      have hcr : 0 ≤ c ∧ c ≤ 255 := by
        rw [← hc]
        have : t.getD k 0 ∈ t := by simp [List.getD, hkl]
        exact HBY.out _ this
      have HRoom : Hid (p + (Plain.esc c).length ≤ n - 1) := by have := quoted_room t k hkl c hc; rw [HP.out, ← hn.out]; exact this
      have HAt : Hid (∀ j, j < (Plain.esc c).length → wr.cell? ⟨b, off + (p + j), none⟩ = some (.int .u8 ((Plain.esc c).getD j 0))) := by
        intro j hj
        have hr1 := HRoom.out
        have h1 := HC.out (p + j) (by have := hn.out; omega)
        rw [show p + j = 1 + (F t k).length + j by rw [HP.out], quoted_at t k hkl c hc j hj] at h1
        rw [show p + j = 1 + (F t k).length + j by rw [HP.out]]
        exact HG.out.kept.cell h1 (by simp)
      have HNP : Hid (p + (Plain.esc c).length = 1 + (F t (k + 1)).length) := by rw [F_pos t k hkl c hc, HP.out]; exact hid (by omega)
      have HTK := hid (take_succ_getD t k hkl c hc)
      obtain ⟨ys, hys⟩ : ∃ ys, ys = t.take k := ⟨_, rfl⟩
      rw [← hys] at htk HG HTK
      clear hys hc hkl HP HBY
      by_cases hpl : 32 ≤ c ∧ ¬ c = 34 ∧ ¬ c = 92
      · have HE := hid (Plain.esc_plain c (by simp [Plain.sp]; omega))
        rw [HE.out] at HRoom HAt HNP
        have hroom : p + 1 ≤ n - 1 := HRoom.out
        have d0 := HAt.out 0 (by simp)
        simp only [Nat.add_zero, List.getD_cons_zero] at d0
        have HNP1 : Hid (p + 1 = 1 + (F t (k + 1)).length) := HNP.out
        have hb0 : ¬ c < 32 := by omega
        have hb1 : (c == 34) = false := by simp; omega
        have hb2 : (c != 92) = true := by simp; omega
        clear hpl HE HRoom HAt HNP
        go_wp2_with (at_builtin; refine wp_app rfl (.tmp 48) (.tmp 50) rfl rfl (HG.out.alloc _) rfl [c] rfl (Bytes.new _ _) (fun h => nomatch h) (by simp; omega) ?_; intro v1 w1 hG1)
        go_roundw
        case rel => exact ⟨k + 1, p + 1, by omega, by go_num, HNP1.out, by rw [HTK.out]; exact hG1⟩
        case measure => simp [intOf]; omega
      by_cases c34 : c = 34
      · subst c34
        have HE : Hid (Plain.esc 34 = [92, 34]) := by unfold Plain.esc; simp; exact hid trivial
        rw [HE.out] at HRoom HAt HNP
        have hroom : p + 2 ≤ n - 1 := HRoom.out
        have d0 := HAt.out 0 (by simp)
        have d1 := HAt.out 1 (by simp)
        simp only [Nat.add_zero, List.getD_cons_zero, List.getD_cons_succ] at d0 d1
        have HNP1 : Hid (p + 2 = 1 + (F t (k + 1)).length) := HNP.out
        clear hpl HE HRoom HAt HNP hcr
        go_wp2_with (at_builtin; refine wp_app rfl (.tmp 70) (.tmp 72) rfl rfl (HG.out.alloc _) rfl [34] rfl (Bytes.new _ _) (fun h => nomatch h) (by simp; omega) ?_; intro v1 w1 hG1)
        go_roundw
        case rel => exact ⟨k + 1, p + 2, by omega, by go_num, HNP1.out, by rw [HTK.out]; exact hG1⟩
        case measure => simp [intOf]; omega
      by_cases c92 : c = 92
      · subst c92
        have HE : Hid (Plain.esc 92 = [92, 92]) := by unfold Plain.esc; simp; exact hid trivial
        rw [HE.out] at HRoom HAt HNP
        have hroom : p + 2 ≤ n - 1 := HRoom.out
        have d0 := HAt.out 0 (by simp)
        have d1 := HAt.out 1 (by simp)
        simp only [Nat.add_zero, List.getD_cons_zero, List.getD_cons_succ] at d0 d1
        have HNP1 : Hid (p + 2 = 1 + (F t (k + 1)).length) := HNP.out
        clear hpl HE HRoom HAt HNP hcr
        go_wp2_with (at_builtin; refine wp_app rfl (.tmp 70) (.tmp 72) rfl rfl (HG.out.alloc _) rfl [92] rfl (Bytes.new _ _) (fun h => nomatch h) (by simp; omega) ?_; intro v1 w1 hG1)
        go_roundw
        case rel => exact ⟨k + 1, p + 2, by omega, by go_num, HNP1.out, by rw [HTK.out]; exact hG1⟩
        case measure => simp [intOf]; omega
      by_cases c8 : c = 8
      · subst c8
        have HE : Hid (Plain.esc 8 = [92, 98]) := by unfold Plain.esc; simp; exact hid trivial
        rw [HE.out] at HRoom HAt HNP
        have hroom : p + 2 ≤ n - 1 := HRoom.out
        have d0 := HAt.out 0 (by simp)
        have d1 := HAt.out 1 (by simp)
        simp only [Nat.add_zero, List.getD_cons_zero, List.getD_cons_succ] at d0 d1
        have HNP1 : Hid (p + 2 = 1 + (F t (k + 1)).length) := HNP.out
        clear hpl HE HRoom HAt HNP hcr
        go_wp2_with (at_builtin; refine wp_app rfl (.tmp 76) (.tmp 77) rfl rfl (HG.out.alloc _) rfl [8] rfl (Bytes.new _ _) (fun h => nomatch h) (by simp; omega) ?_; intro v1 w1 hG1)
        go_roundw
        case rel => exact ⟨k + 1, p + 2, by omega, by go_num, HNP1.out, by rw [HTK.out]; exact hG1⟩
        case measure => simp [intOf]; omega
      by_cases c12 : c = 12
      · subst c12
        have HE : Hid (Plain.esc 12 = [92, 102]) := by unfold Plain.esc; simp; exact hid trivial
        rw [HE.out] at HRoom HAt HNP
        have hroom : p + 2 ≤ n - 1 := HRoom.out
        have d0 := HAt.out 0 (by simp)
        have d1 := HAt.out 1 (by simp)
        simp only [Nat.add_zero, List.getD_cons_zero, List.getD_cons_succ] at d0 d1
        have HNP1 : Hid (p + 2 = 1 + (F t (k + 1)).length) := HNP.out
        clear hpl HE HRoom HAt HNP hcr
        go_wp2_with (at_builtin; refine wp_app rfl (.tmp 81) (.tmp 82) rfl rfl (HG.out.alloc _) rfl [12] rfl (Bytes.new _ _) (fun h => nomatch h) (by simp; omega) ?_; intro v1 w1 hG1)
        go_roundw
        case rel => exact ⟨k + 1, p + 2, by omega, by go_num, HNP1.out, by rw [HTK.out]; exact hG1⟩
        case measure => simp [intOf]; omega
      by_cases c10 : c = 10
      · subst c10
        have HE : Hid (Plain.esc 10 = [92, 110]) := by unfold Plain.esc; simp; exact hid trivial
        rw [HE.out] at HRoom HAt HNP
        have hroom : p + 2 ≤ n - 1 := HRoom.out
        have d0 := HAt.out 0 (by simp)
        have d1 := HAt.out 1 (by simp)
        simp only [Nat.add_zero, List.getD_cons_zero, List.getD_cons_succ] at d0 d1
        have HNP1 : Hid (p + 2 = 1 + (F t (k + 1)).length) := HNP.out
        clear hpl HE HRoom HAt HNP hcr
        go_wp2_with (at_builtin; refine wp_app rfl (.tmp 86) (.tmp 87) rfl rfl (HG.out.alloc _) rfl [10] rfl (Bytes.new _ _) (fun h => nomatch h) (by simp; omega) ?_; intro v1 w1 hG1)
        go_roundw
        case rel => exact ⟨k + 1, p + 2, by omega, by go_num, HNP1.out, by rw [HTK.out]; exact hG1⟩
        case measure => simp [intOf]; omega
      by_cases c13 : c = 13
      · subst c13
        have HE : Hid (Plain.esc 13 = [92, 114]) := by unfold Plain.esc; simp; exact hid trivial
        rw [HE.out] at HRoom HAt HNP
        have hroom : p + 2 ≤ n - 1 := HRoom.out
        have d0 := HAt.out 0 (by simp)
        have d1 := HAt.out 1 (by simp)
        simp only [Nat.add_zero, List.getD_cons_zero, List.getD_cons_succ] at d0 d1
        have HNP1 : Hid (p + 2 = 1 + (F t (k + 1)).length) := HNP.out
        clear hpl HE HRoom HAt HNP hcr
        go_wp2_with (at_builtin; refine wp_app rfl (.tmp 91) (.tmp 92) rfl rfl (HG.out.alloc _) rfl [13] rfl (Bytes.new _ _) (fun h => nomatch h) (by simp; omega) ?_; intro v1 w1 hG1)
        go_roundw
        case rel => exact ⟨k + 1, p + 2, by omega, by go_num, HNP1.out, by rw [HTK.out]; exact hG1⟩
        case measure => simp [intOf]; omega
      by_cases c9 : c = 9
      · subst c9
        have HE : Hid (Plain.esc 9 = [92, 116]) := by unfold Plain.esc; simp; exact hid trivial
        rw [HE.out] at HRoom HAt HNP
        have hroom : p + 2 ≤ n - 1 := HRoom.out
        have d0 := HAt.out 0 (by simp)
        have d1 := HAt.out 1 (by simp)
        simp only [Nat.add_zero, List.getD_cons_zero, List.getD_cons_succ] at d0 d1
        have HNP1 : Hid (p + 2 = 1 + (F t (k + 1)).length) := HNP.out
        clear hpl HE HRoom HAt HNP hcr
        go_wp2_with (at_builtin; refine wp_app rfl (.tmp 96) (.tmp 97) rfl rfl (HG.out.alloc _) rfl [9] rfl (Bytes.new _ _) (fun h => nomatch h) (by simp; omega) ?_; intro v1 w1 hG1)
        go_roundw
        case rel => exact ⟨k + 1, p + 2, by omega, by go_num, HNP1.out, by rw [HTK.out]; exact hG1⟩
        case measure => simp [intOf]; omega
      have hc32 : c < 32 := by omega
      have HE := hid (esc_hex c hc32 c8 c9 c10 c12 c13)
      rw [HE.out] at HRoom HAt HNP
      have hroom : p + 6 ≤ n - 1 := HRoom.out
      have d0 := HAt.out 0 (by simp)
      have d1 := HAt.out 1 (by simp)
      have d2 := HAt.out 2 (by simp)
      have d3 := HAt.out 3 (by simp)
      have d4 := HAt.out 4 (by simp)
      have d5 := HAt.out 5 (by simp)
      simp only [Nat.add_zero, List.getD_cons_zero, List.getD_cons_succ] at d0 d1 d2 d3 d4 d5
      have HNP1 : Hid (p + 6 = 1 + (F t (k + 1)).length) := HNP.out
      have HD2 := hid d2
      have HD3 := hid d3
      have HD4 := hid d4
      have HD5 := hid d5
      clear hpl HE HRoom HAt HNP d2 d3 d4 d5 c34 c92 c8 c12 c10 c13 c9
      have t35 : (p : Int) < (n : Int) - 1 := by omega
      have t57 : ¬ (n : Int) - 1 ≤ (p : Int) + 1 := by omega
      have t104 : ¬ (n : Int) - 1 < (p : Int) + 2 + 4 := by omega
      go_wp2
      go_loop [9, 10] (fun x m => ∃ j : Nat, j ≤ 4 ∧ m = .int .i64 j ∧ x = .int .i64 (hv c j)) (fun _ m => 4 - (intOf m).toNat)
      case atStart => exact ⟨0, by omega, rfl, rfl⟩
      case round =>
        clear d0 d1
        obtain ⟨j, hj, rfl, rfl⟩ := hrel
        by_cases hj0 : j = 0
        · subst hj0
          have hd := HD2.out
          have e1 : hv c 0 = 0 := rfl
          have HE1 : Hid (hv c 1 = 0) := rfl
          go_wp2_with (go_at_call 24; refine (hexv_any 48 0 _ (by omega) (by omega) (hid rfl)).mono ?_; rintro e w' ⟨rfl, rfl⟩)
          go_round
          case rel => exact ⟨1, by omega, by go_num, by rw [HE1.out]⟩
          case measure => simp [intOf]
        by_cases hj1 : j = 1
        · subst hj1
          have hd := HD3.out
          have e1 : hv c 1 = 0 := rfl
          have HE1 : Hid (hv c 2 = 0) := rfl
          go_wp2_with (go_at_call 24; refine (hexv_any 48 0 _ (by omega) (by omega) (hid rfl)).mono ?_; rintro e w' ⟨rfl, rfl⟩)
          go_round
          case rel => exact ⟨2, by omega, by go_num, by rw [HE1.out]⟩
          case measure => simp [intOf]
        by_cases hj2 : j = 2
        · subst hj2
          have hd := HD4.out
          have e1 : hv c 2 = 0 := rfl
          have HE1 : Hid (hv c 3 = c / 16) := rfl
          obtain ⟨h1, hh1⟩ : ∃ h1, Plain.hex (c / 16) = h1 := ⟨_, rfl⟩
          rw [hh1] at hd
          have HH := hid hh1
          clear hh1
          go_wp2_with (go_at_call 24; refine (hexv_any h1 (c / 16) _ (by omega) (by omega) HH).mono ?_; rintro e w' ⟨rfl, rfl⟩)
          go_round
          case rel => exact ⟨3, by omega, by go_num, by rw [HE1.out]⟩
          case measure => simp [intOf]
        by_cases hj3 : j = 3
        · subst hj3
          have hd := HD5.out
          have e1 : hv c 3 = c / 16 := rfl
          have HE1 : Hid (hv c 4 = c) := rfl
          obtain ⟨h1, hh1⟩ : ∃ h1, Plain.hex (c % 16) = h1 := ⟨_, rfl⟩
          rw [hh1] at hd
          have HH := hid hh1
          clear hh1
          go_wp2_with (go_at_call 24; refine (hexv_any h1 (c % 16) _ (by omega) (by omega) HH).mono ?_; rintro e w' ⟨rfl, rfl⟩)
          go_round
          case rel => exact ⟨4, by omega, by go_num, by rw [HE1.out]; go_num⟩
          case measure => simp [intOf]
        · have hj4 : j = 4 := by omega
          subst hj4
          have e1 : hv c 4 = c := rfl
          go_wp2_with (at_builtin; refine wp_app rfl (.tmp 124) (.tmp 127) rfl rfl (HG.out.alloc _) rfl [c] rfl (Bytes.new _ _) (fun h => nomatch h) (by simp; omega) ?_; intro v1 w1 hG1)
          go_roundw
          case rel => exact ⟨k + 1, p + 6, by omega, by go_num, HNP1.out, by rw [HTK.out]; exact hG1⟩
          case measure => simp [intOf]; omega
    · have hpn : (p : Int) = (n : Int) - 1 := by
        have h1 := quoted_end t k (by have := HTL.out; omega)
        have h2 := HP.out
        have h3 := hn.out
        omega
      have HT : Hid (t.take k = t) := List.take_of_length_le (by have := HTL.out; omega)
      have hpn2 : ¬ (p : Int) < (n : Int) - 1 := by omega
      clear hpn HP
      go_wp2
      go_ret2
      exact ⟨_, rfl, by have := HG.out; rw [HT.out] at this; exact this⟩

end Go.Proofs.Qxb6604022a
