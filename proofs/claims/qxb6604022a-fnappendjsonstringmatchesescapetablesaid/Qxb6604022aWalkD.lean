/-
  appendJSONString, whole.
-/
import Derived.Test.Qxb6604022aWalkC
namespace Go.Proofs.Qxb6604022a
open Go.ChangeShapes Go.WideShapes Go.ChangeAt Go.RowKit
set_option linter.unusedVariables false

/-- the escapes of the first k bytes -/
def F (t : List Int) (k : Nat) : List Int := (t.take k).flatMap Plain.esc
/-- the part from s to k -/
def seg (t : List Int) (s k : Nat) : List Int := (t.drop s).take (k - s)

theorem seg_length (t : List Int) (s k : Nat) (h : s ≤ k) (hk : k ≤ t.length) : (seg t s k).length = k - s := by simp [seg]; omega
theorem F_zero (t : List Int) : F t 0 = [] := by simp [F]
theorem F_succ (t : List Int) (k : Nat) (h : k < t.length) (c : Int) (hc : t.getD k 0 = c) : F t (k + 1) = F t k ++ Plain.esc c := by
  unfold F
  rw [List.take_add_one, List.flatMap_append]
  congr 1
  simp [List.getD, h] at hc
  simp [h, hc]
theorem F_seg (t : List Int) (s : Nat) (d : Nat) (h : s + d ≤ t.length) (hp : ∀ j, s ≤ j → j < s + d → Plain.sp (t.getD j 0) = false) : F t s ++ seg t s (s + d) = F t (s + d) := by
  unfold F seg
  have e : t.take (s + d) = t.take s ++ (t.drop s).take d := List.take_add
  rw [e, List.flatMap_append, show s + d - s = d by omega]
  congr 1
  refine (Plain.flat_plain _ fun c hc => ?_).symm
  obtain ⟨j, hj, rfl⟩ := List.getElem_of_mem hc
  have hj' : j < d ∧ s + j < t.length := by simp at hj; omega
  have := hp (s + j) (by omega) (by omega)
  simp [List.getD, hj'.2] at this
  simpa using this
theorem F_seg' (t : List Int) (s k : Nat) (hs : s ≤ k) (hk : k ≤ t.length) (hp : ∀ j, s ≤ j → j < k → Plain.sp (t.getD j 0) = false) : F t s ++ seg t s k = F t k := by
  have := F_seg t s (k - s) (by omega) (fun j h1 h2 => hp j h1 (by omega))
  rw [show s + (k - s) = k by omega] at this
  exact this
theorem F_len (t : List Int) (k : Nat) : (F t k).length ≤ 6 * t.length := by
  have := (Plain.flat_le (t.take k)).2
  have h2 : (t.take k).length ≤ t.length := List.length_take_le' _ _
  unfold F
  omega
theorem F_all (t : List Int) : F t t.length = t.flatMap Plain.esc := by simp [F]

theorem sp_yes (c : Int) (h : c < 32 ∨ c = 34 ∨ c = 92) : Plain.sp c = true := by simp [Plain.sp]; omega

/-- the text lies apart from the row that is written -/
def Apart (v : Value) (a : Option Addr) : Prop := ∀ x, a = some x → v.ownBlock ≠ some x.block

set_option maxHeartbeats 4000000 in
theorem appendJSON_any (v : Value) (xs : List Int) (a : Option Addr) (t : List Int) (n : Nat) (w : World) (h : Own w v xs) (hl : xs.length ≤ 16777216) (hn : Hid (t.length = n)) (ht : Bytes w a t) (hnil : a = none → t = []) (hap : Apart v a) (hnl : n ≤ 1048576) (hby : ∀ c ∈ t, 0 ≤ c) :
    Calls Try.prog 23 #[v, .slice a n n] w fun e w' => Wrote w v (xs ++ [34] ++ t.flatMap Plain.esc ++ [34]) e w' := by
  have HG0 := hid (Grow.start h)
  have HT := hid ht
  have HAP := hid hap
  have HBY := hid hby
  have HNIL := hid hnil
  obtain ⟨o, ho⟩ : ∃ o, v.ownBlock = o := ⟨_, rfl⟩
  have HO := hid ho
  unfold Wrote
  rw [ho] at HG0 ⊢
  clear h ht hap hby hnil ho
  go_enter Try.func23, Try.ntmps23
  go_wp2_with (at_builtin; refine wp_app rfl (.tmp 8) (.tmp 9) rfl rfl (HG0.out.alloc _) rfl [34] rfl (Bytes.new _ _) (fun h => nomatch h) (by simp; omega) ?_; intro v0 w0 hG0)
  go_loopw [0, 5, 13] (fun b st i wr => ∃ k s : Nat, k ≤ n ∧ s ≤ k ∧ i = .int .i64 k ∧ st = .int .i64 s ∧ Grow w o wr b (xs ++ [34] ++ F t s) ∧ ∀ j, s ≤ j → j < k → Plain.sp (t.getD j 0) = false) (fun _ _ i _ => n - (intOf i).toNat)
  case atStart => exact ⟨0, 0, Nat.zero_le _, Nat.le_refl _, rfl, rfl, by rw [F_zero, List.append_nil]; exact hG0, fun j _ h => absurd h (by omega)⟩
  case round =>
    clear hG0 HG0
    obtain ⟨k, s, hk, hs, rfl, rfl, hG, hpl⟩ := hrel
    have HG := hid hG
    have HPL := hid hpl
    have HBT := hid (hG.bytes HT.out (fun x hx => by rw [← HO.out]; exact HAP.out x hx))
    have hyl : (xs ++ [34] ++ F t s).length ≤ 33554432 := by
      have := F_len t s
      have h2 := hn.out
      simp only [List.length_append, List.length_cons, List.length_nil]
      omega
    obtain ⟨ys, hys⟩ : ∃ ys, ys = xs ++ [34] ++ F t s := ⟨_, rfl⟩
    rw [← hys] at hyl HG
    have HY := hid hys
    clear hG hpl hys
    by_cases hlt : k < n
    · obtain ⟨b, off, rfl, hc⟩ := HBT.out.open (by have := hn.out; omega)
      have hck := hc k (by have := hn.out; omega)
      obtain ⟨x, hx⟩ : ∃ x, t.getD k 0 = x := ⟨_, rfl⟩
      rw [hx] at hck
      have HX := hid hx
      have hx0 : 0 ≤ x := by
        rw [← hx]
        have hkl : k < t.length := by have := hn.out; omega
        have : t.getD k 0 ∈ t := by simp [List.getD, hkl]
        exact HBY.out _ this
      clear hc hx
      by_cases hsp : x < 32 ∨ x = 34 ∨ x = 92
      · have hsl : (seg t s k).length ≤ 1048576 := by have := seg_length t s k hs (by have := hn.out; omega); omega
        have HSL : Hid ((seg t s k).length = k - s) := seg_length t s k hs (by have := hn.out; omega)
        have HSB : Hid (Bytes wr (some ⟨b, off + s, none⟩) (seg t s k)) := HBT.out.part s (k - s)
        have HF : Hid (ys ++ seg t s k ++ Plain.esc x = xs ++ [34] ++ F t (k + 1)) := by
          rw [HY.out, F_succ t k (by have := hn.out; omega) x HX.out, ← F_seg' t s k hs (by have := hn.out; omega) HPL.out]
          simp [Hid]
        obtain ⟨sg, hsg⟩ : ∃ sg, sg = seg t s k := ⟨_, rfl⟩
        rw [← hsg] at hsl HSL HSB HF
        clear hsg HPL HY HBT
        have hsc : ¬ n = s := by omega
        by_cases c34 : x = 34
        · subst c34
          clear hsp hx0
          have HE : Hid (Plain.esc 34 = [92, 34]) := by unfold Plain.esc; simp; exact hid trivial
          go_wp2_with (first
            | (at_builtin; refine wp_app rfl (.tmp 28) (.tmp 32) rfl rfl HG.out rfl sg HSL.out HSB.out (fun h => nomatch h) (by omega) ?_; intro v1 w1 hG1)
            | (at_builtin; refine wp_app rfl (.tmp 44) (.tmp 46) rfl rfl (hG1.alloc _) rfl [92, 34] rfl (Bytes.new _ _) (fun h => nomatch h) (by simp; omega) ?_; intro v2 w2 hG2))
          go_roundw
          case rel => exact ⟨k + 1, k + 1, by omega, by omega, by go_num, by go_num, by rw [← HF.out, HE.out]; exact hG2, fun j h1 h2 => absurd h1 (by omega)⟩
          case measure => simp [intOf]; omega
        by_cases c92 : x = 92
        · subst c92
          clear hsp hx0
          have HE : Hid (Plain.esc 92 = [92, 92]) := by unfold Plain.esc; simp; exact hid trivial
          go_wp2_with (first
            | (at_builtin; refine wp_app rfl (.tmp 28) (.tmp 32) rfl rfl HG.out rfl sg HSL.out HSB.out (fun h => nomatch h) (by omega) ?_; intro v1 w1 hG1)
            | (at_builtin; refine wp_app rfl (.tmp 44) (.tmp 46) rfl rfl (hG1.alloc _) rfl [92, 92] rfl (Bytes.new _ _) (fun h => nomatch h) (by simp; omega) ?_; intro v2 w2 hG2))
          go_roundw
          case rel => exact ⟨k + 1, k + 1, by omega, by omega, by go_num, by go_num, by rw [← HF.out, HE.out]; exact hG2, fun j h1 h2 => absurd h1 (by omega)⟩
          case measure => simp [intOf]; omega
        by_cases c8 : x = 8
        · subst c8
          clear hsp hx0
          have HE : Hid (Plain.esc 8 = [92, 98]) := by unfold Plain.esc; simp; exact hid trivial
          go_wp2_with (first
            | (at_builtin; refine wp_app rfl (.tmp 28) (.tmp 32) rfl rfl HG.out rfl sg HSL.out HSB.out (fun h => nomatch h) (by omega) ?_; intro v1 w1 hG1)
            | (at_builtin; (refine wp_app_string rfl (.tmp 50) _ rfl rfl hG1 ⟨#[92, 98]⟩ rfl (by show (ys ++ sg).length + 2 ≤ _; simp only [List.length_append]; omega) ?_); intro v2 w2 hG2))
          go_roundw
          case rel => exact ⟨k + 1, k + 1, by omega, by omega, by go_num, by go_num, by rw [← HF.out, HE.out]; exact hG2, fun j h1 h2 => absurd h1 (by omega)⟩
          case measure => simp [intOf]; omega
        by_cases c12 : x = 12
        · subst c12
          clear hsp hx0
          have HE : Hid (Plain.esc 12 = [92, 102]) := by unfold Plain.esc; simp; exact hid trivial
          go_wp2_with (first
            | (at_builtin; refine wp_app rfl (.tmp 28) (.tmp 32) rfl rfl HG.out rfl sg HSL.out HSB.out (fun h => nomatch h) (by omega) ?_; intro v1 w1 hG1)
            | (at_builtin; (refine wp_app_string rfl (.tmp 54) _ rfl rfl hG1 ⟨#[92, 102]⟩ rfl (by show (ys ++ sg).length + 2 ≤ _; simp only [List.length_append]; omega) ?_); intro v2 w2 hG2))
          go_roundw
          case rel => exact ⟨k + 1, k + 1, by omega, by omega, by go_num, by go_num, by rw [← HF.out, HE.out]; exact hG2, fun j h1 h2 => absurd h1 (by omega)⟩
          case measure => simp [intOf]; omega
        by_cases c10 : x = 10
        · subst c10
          clear hsp hx0
          have HE : Hid (Plain.esc 10 = [92, 110]) := by unfold Plain.esc; simp; exact hid trivial
          go_wp2_with (first
            | (at_builtin; refine wp_app rfl (.tmp 28) (.tmp 32) rfl rfl HG.out rfl sg HSL.out HSB.out (fun h => nomatch h) (by omega) ?_; intro v1 w1 hG1)
            | (at_builtin; (refine wp_app_string rfl (.tmp 58) _ rfl rfl hG1 ⟨#[92, 110]⟩ rfl (by show (ys ++ sg).length + 2 ≤ _; simp only [List.length_append]; omega) ?_); intro v2 w2 hG2))
          go_roundw
          case rel => exact ⟨k + 1, k + 1, by omega, by omega, by go_num, by go_num, by rw [← HF.out, HE.out]; exact hG2, fun j h1 h2 => absurd h1 (by omega)⟩
          case measure => simp [intOf]; omega
        by_cases c13 : x = 13
        · subst c13
          clear hsp hx0
          have HE : Hid (Plain.esc 13 = [92, 114]) := by unfold Plain.esc; simp; exact hid trivial
          go_wp2_with (first
            | (at_builtin; refine wp_app rfl (.tmp 28) (.tmp 32) rfl rfl HG.out rfl sg HSL.out HSB.out (fun h => nomatch h) (by omega) ?_; intro v1 w1 hG1)
            | (at_builtin; (refine wp_app_string rfl (.tmp 62) _ rfl rfl hG1 ⟨#[92, 114]⟩ rfl (by show (ys ++ sg).length + 2 ≤ _; simp only [List.length_append]; omega) ?_); intro v2 w2 hG2))
          go_roundw
          case rel => exact ⟨k + 1, k + 1, by omega, by omega, by go_num, by go_num, by rw [← HF.out, HE.out]; exact hG2, fun j h1 h2 => absurd h1 (by omega)⟩
          case measure => simp [intOf]; omega
        by_cases c9 : x = 9
        · subst c9
          clear hsp hx0
          have HE : Hid (Plain.esc 9 = [92, 116]) := by unfold Plain.esc; simp; exact hid trivial
          go_wp2_with (first
            | (at_builtin; refine wp_app rfl (.tmp 28) (.tmp 32) rfl rfl HG.out rfl sg HSL.out HSB.out (fun h => nomatch h) (by omega) ?_; intro v1 w1 hG1)
            | (at_builtin; (refine wp_app_string rfl (.tmp 66) _ rfl rfl hG1 ⟨#[92, 116]⟩ rfl (by show (ys ++ sg).length + 2 ≤ _; simp only [List.length_append]; omega) ?_); intro v2 w2 hG2))
          go_roundw
          case rel => exact ⟨k + 1, k + 1, by omega, by omega, by go_num, by go_num, by rw [← HF.out, HE.out]; exact hG2, fun j h1 h2 => absurd h1 (by omega)⟩
          case measure => simp [intOf]; omega
        have hx32 : x < 32 := by omega
        clear hsp
        have HE := hid (esc_hex x hx32 c8 c9 c10 c12 c13)
        go_wp2_with (first
          | (at_builtin; refine wp_app rfl (.tmp 28) (.tmp 32) rfl rfl HG.out rfl sg HSL.out HSB.out (fun h => nomatch h) (by omega) ?_; intro v1 w1 hG1)
          | (go_at_call 26; refine (appendEscape_any v1 (ys ++ sg) x _ hG1.own (by simp; omega) hx0 hx32).mono ?_; rintro e w2 ⟨v2, rfl, hG2⟩))
        go_roundw
        case rel => exact ⟨k + 1, k + 1, by omega, by omega, by go_num, by go_num, by rw [← HF.out, HE.out]; exact hG1.trans hG2, fun j h1 h2 => absurd h1 (by omega)⟩
        case measure => simp [intOf]; omega
      · have h32 : 32 ≤ x := by omega
        have h34 : ¬ x = 34 := by omega
        have h92 : ¬ x = 92 := by omega
        have hb34 : (x != 34) = true := by simpa using h34
        have hb92 : (x != 92) = true := by simpa using h92
        clear hsp h34 h92
        go_wp2
        go_roundw
        case rel =>
          refine ⟨k + 1, s, by omega, by omega, by go_num, rfl, by rw [← HY.out]; exact HG.out, fun j h1 h2 => ?_⟩
          by_cases hjk : j = k
          · subst hjk; rw [HX.out]; have h34 : ¬ x = 34 := by simpa using hb34
            have h92 : ¬ x = 92 := by simpa using hb92
            simp [Plain.sp, h34, h92]; omega
          · exact HPL.out j h1 (by omega)
        case measure => simp [intOf]; omega
    · have hkn : k = n := by omega
      have HF : Hid (ys ++ t.drop s = xs ++ [34] ++ t.flatMap Plain.esc) := by
        have h1 := F_seg' t s k hs (by have := hn.out; omega) HPL.out
        have h2 : seg t s k = t.drop s := by unfold seg; exact List.take_of_length_le (by have := hn.out; simp; omega)
        rw [HY.out, List.append_assoc, ← h2, h1, hkn, ← hn.out, F_all]
        exact hid rfl
      have hdl : (t.drop s).length ≤ 1048576 := by have := hn.out; simp; omega
      have HDL : Hid ((t.drop s).length = n - s) := by rw [List.length_drop, hn.out]; exact hid rfl
      by_cases hsn : s = n
      · have HDB : Hid (Bytes wr a (t.drop s)) := .inl (List.drop_eq_nil_of_le (by have := hn.out; omega))
        have HDL0 : Hid ((t.drop s).length = 0) := HDL.out.trans (by omega)
        obtain ⟨dr, hdr⟩ : ∃ dr, dr = t.drop s := ⟨_, rfl⟩
        rw [← hdr] at HF hdl HDB HDL0
        clear hdr HPL HY HBT HDL hkn
        subst hsn
        go_wp2_with (first
          | (at_builtin; refine wp_app rfl (.tmp 69) (.tmp 72) rfl rfl HG.out rfl dr HDL0.out HDB.out (fun _ => ⟨rfl, rfl⟩) (by omega) ?_; intro v1 w1 hG1)
          | (at_builtin; refine wp_app rfl (.tmp 74) (.tmp 75) rfl rfl (hG1.alloc _) rfl [34] rfl (Bytes.new _ _) (fun h => nomatch h) (by simp; omega) ?_; intro v2 w2 hG2))
        go_ret
        exact ⟨_, rfl, by rw [← HF.out]; exact hG2⟩
      · obtain ⟨b, off, rfl, hc⟩ := HBT.out.open (by have := hn.out; omega)
        have HDB : Hid (Bytes wr (some ⟨b, off + s, none⟩) (t.drop s)) := by
          have h1 := HBT.out.part s (n - s)
          rwa [List.take_of_length_le (by have := hn.out; simp; omega)] at h1
        obtain ⟨dr, hdr⟩ : ∃ dr, dr = t.drop s := ⟨_, rfl⟩
        rw [← hdr] at HF hdl HDB HDL
        have hsn' : ¬ n = s := by omega
        clear hdr HPL HY HBT hkn hsn hc
        go_wp2_with (first
          | (at_builtin; refine wp_app rfl (.tmp 69) (.tmp 72) rfl rfl HG.out rfl dr HDL.out HDB.out (fun h => nomatch h) (by omega) ?_; intro v1 w1 hG1)
          | (at_builtin; refine wp_app rfl (.tmp 74) (.tmp 75) rfl rfl (hG1.alloc _) rfl [34] rfl (Bytes.new _ _) (fun h => nomatch h) (by simp; omega) ?_; intro v2 w2 hG2))
        go_ret
        exact ⟨_, rfl, by rw [← HF.out]; exact hG2⟩

end Go.Proofs.Qxb6604022a
