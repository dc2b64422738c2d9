/-
  THE CLONE, its value written out; the bound on the lengths; a slice that came in; the exported appendJSONString; the comparison of two owned slices.
-/
import Derived.Test.Qxb6604022aWalkD
import Derived.OpenShut
namespace Go.Proofs.Qxb6604022a
open Go.ChangeShapes Go.WideShapes Go.ChangeAt Go.RowKit
set_option linter.unusedVariables false

/-- what the clone leaves, its value written out -/
def ClonedIs (z : List Int) (n : Nat) (w : World) (e : Ending) (w' : World) : Prop :=
  ∃ a', e = .returned (.slice a' n n) ∧ Own w' (.slice a' n n) z ∧ (∀ x, a' = some x → w.heap.size ≤ x.block ∧ x.block < w'.heap.size) ∧ (a' = none → z = []) ∧ Bytes w' a' z ∧ Below w.heap.size w w'

set_option maxHeartbeats 1000000 in
theorem clone_is (a : Option Addr) (z : List Int) (n cap : Nat) (w : World) (hn : Hid (z.length = n)) (hr : Bytes w a z) (hl : n ≤ 1048576) (hnil : a = none → z = []) :
    Calls Try.prog 8 #[.slice a n cap] w fun e w' => ClonedIs z n w e w' := by
  have q22 : ∀ (w : World) (a : Option Addr) (n c n' c' : Nat), (binOp .eql 22 (.slice a n c) (.slice none n' c')).run Try.prog w = .ok (.bool a.isNone) w := fun w a n c n' c' => Lib.run_eql_slice_nil w _ _ a n c n' c' Try.underlying22
  cases a with
  | none =>
    obtain rfl := hnil rfl
    obtain rfl : 0 = n := hn.out
    go_enter Try.func8, Try.ntmps8
    go_wp2
    go_ret
    exact ⟨none, rfl, Own.nil _, (fun x h => nomatch h), (fun _ => rfl), .inl rfl, Below.refl _ _⟩
  | some x =>
    obtain ⟨i0, hi, hz0, hz1, hz2⟩ := info_parts Try.info5
    have HI : Hid (Try.prog.info? 5 = some i0) := hi
    have HB : Hid (i0.bytes = 1) := hz2
    have HZ : Hid (i0.zero = some (.int .u8 0)) := hz0
    have HS : Hid (i0.size = 1) := hz1
    clear hi hz0 hz1 hz2
    have HL : Hid ((cells z).length = n) := by rw [cells_length]; exact hn
    have HR : Hid (Bytes w (some x) z) := hr
    clear hr
    go_enter Try.func8, Try.ntmps8
    go_wp2_with (first
      | (at_make; refine wpList_make_full _ rfl _ _ 22 rfl w.heap.size 5 i0 (.int .u8 0) 1 Try.underlying22 HI.out HZ.out HS.out _ _ _ _ n rfl rfl rfl rfl (by rw [HB.out]; omega) (by unfold maxLen; omega) (Nat.le_refl _) ?_; intro w1 hown hgrow; obtain ⟨cur, HG, HC⟩ := made_row hown)
      | ((refine wpList_copy_splice rfl (.tmp 9) (.tmp 10) 22 22 rfl 5 Try.underlying22 Try.size5 _ _ _ _ _ _ rfl rfl w.heap.size 0 cur 5 HG.out (cells z) (by rw [HL.out]; simp) (fun h => ⟨rfl, x, rfl, src_cells HR.out hgrow h⟩) (by rw [HL.out, HC.out]; omega) (cells_one _) w.heap.size w ((Below.refl _ _).grown hgrow (Nat.le_refl _) (by simp)) (Nat.le_refl _) ?_); intro w2 HG2 hB2))
    go_ret
    rw [splice_all _ _ (by rw [HL.out, HC.out])] at HG2
    have hz := hn.out
    have ho := own_of_row w2 w.heap.size z (by unfold maxLen; omega) HG2.out
    have hlt : w.heap.size < w2.heap.size := (Array.getElem?_eq_some_iff.1 HG2.out).1
    have hby : Bytes w2 (some ⟨w.heap.size, 0, none⟩) z := by
      obtain ⟨a, cap, hv, _, hb, _, _⟩ := ho.shape
      obtain ⟨rfl, _⟩ : _ = a ∧ _ = cap := by simpa using hv
      exact hb
    rw [hz] at ho
    exact ⟨_, rfl, ho, (fun y h => by obtain rfl := Option.some.inj h; exact ⟨Nat.le_refl _, hlt⟩), (fun h => nomatch h), hby, hB2⟩

theorem row_in (a : Option Addr) (len cap : Nat) (zs : List Int) (w : World)
    (h : (a = none ∧ len = 0 ∧ cap = 0 ∧ zs = []) ∨ ∃ x, a = some x ∧ len ≤ cap ∧ cap ≤ maxLen ∧ zs.length = cap ∧ (∀ i, i < zs.length → w.cell? (x.add i) = some (.int .u8 (zs.getD i 0))) ∧ ∀ n ∈ zs, (Lit.int .u8 n).wf = true) :
    ∃ z : List Int, z.length = len ∧ Bytes w a z ∧ (a = none → z = []) ∧ ∀ c ∈ z, 0 ≤ c ∧ c ≤ 255 := by
  rcases h with ⟨rfl, rfl, rfl, rfl⟩ | ⟨x, rfl, h1, h2, h3, h4, h5⟩
  · exact ⟨[], rfl, .inl rfl, (fun _ => rfl), (fun c hc => nomatch hc)⟩
  · refine ⟨zs.take len, by simp; omega, ?_, (fun h => nomatch h), fun c hc => bounds_u8 (h5 c (List.mem_of_mem_take hc))⟩
    by_cases h0 : len = 0
    · subst h0; exact .inl (by simp)
    · obtain ⟨b, off, spot⟩ := x
      have hspot : spot = none := by simpa [Addr.add] using World.cell?_spot (h4 0 (by omega))
      subst hspot
      refine .inr ⟨b, off, rfl, fun k hk => ?_⟩
      have hk' : k < len := by simp at hk; omega
      rw [← Addr.add_lit, h4 k (by omega)]
      simp [List.getD, hk']

/-- two slices of bytes whose lengths together are within the bound, or not -/
theorem zz7_yes (a b : Option Addr) (n m ca cb : Nat) (w : World) (h : n + m ≤ 1048576) :
    Calls Try.prog 7 #[.slice a n ca, .slice b m cb] w fun e w' => e = .returned (.bool true) ∧ w = w' := by
  go_enter Try.func7, Try.ntmps7
  go_wp2
  go_ret
  exact ⟨rfl, rfl⟩
theorem zz7_no (a b : Option Addr) (n m ca cb : Nat) (w : World) (hn : n ≤ 9223372036854775807) (hm : m ≤ 9223372036854775807) (h : 1048576 < n + m) :
    Calls Try.prog 7 #[.slice a n ca, .slice b m cb] w fun e w' => e = .returned (.bool false) ∧ w = w' := by
  by_cases h1 : 1048576 < n
  · go_enter Try.func7, Try.ntmps7
    go_wp2
    go_ret
    exact ⟨rfl, rfl⟩
  by_cases h2 : 1048576 < m
  · go_enter Try.func7, Try.ntmps7
    go_wp2
    go_ret
    exact ⟨rfl, rfl⟩
  · go_enter Try.func7, Try.ntmps7
    go_wp2
    go_ret
    exact ⟨rfl, rfl⟩
theorem zz12_yes (a : Option Addr) (n ca : Nat) (w : World) (h : n ≤ 1048576) :
    Calls Try.prog 12 #[.slice a n ca] w fun e w' => e = .returned (.bool true) ∧ w = w' := by
  go_enter Try.func12, Try.ntmps12
  go_wp2
  go_ret
  exact ⟨rfl, rfl⟩
theorem zz12_no (a : Option Addr) (n ca : Nat) (w : World) (h : 1048576 < n) :
    Calls Try.prog 12 #[.slice a n ca] w fun e w' => e = .returned (.bool false) ∧ w = w' := by
  go_enter Try.func12, Try.ntmps12
  go_wp2
  go_ret
  exact ⟨rfl, rfl⟩

theorem zzappend_any (v : Value) (xs : List Int) (a : Option Addr) (t : List Int) (n : Nat) (w : World) (h : Own w v xs) (hl : xs.length ≤ 16777216) (hn : Hid (t.length = n)) (ht : Bytes w a t) (hnil : a = none → t = []) (hap : Apart v a) (hnl : n ≤ 1048576) (hby : ∀ c ∈ t, 0 ≤ c) :
    Calls Try.prog 10 #[v, .slice a n n] w fun e w' => Wrote w v (xs ++ [34] ++ t.flatMap Plain.esc ++ [34]) e w' := by
  have H1 := hid h
  have H2 := hid ht
  have H3 := hid hnil
  have H4 := hid hap
  have H5 := hid hby
  clear h ht hnil hap hby
  go_enter Try.func10, Try.ntmps10
  go_wp2_with fail
  refine (appendJSON_any v xs a t n _ H1.out hl hn H2.out H3.out H4.out hnl H5.out).mono ?_
  rintro e w' ⟨v', rfl, hG⟩
  go_wp2_with fail
  go_ret
  exact ⟨v', rfl, hG⟩

/-- the comparison of two slices that are owned -/
theorem equal_own (v u : Value) (x y : List Int) (w : World) (hv : Own w v x) (hu : Own w u y) (hl : x.length ≤ 1073741824) (hl2 : y.length ≤ 1073741824) :
    Calls Try.prog 11 #[v, u] w fun e w' => Compared x y w e w' := by
  obtain ⟨a, ca, rfl, _, ha, _, _⟩ := hv.shape
  obtain ⟨b, cb, rfl, _, hb, _, _⟩ := hu.shape
  exact equal_any a b x y _ _ ca cb w (hid rfl) (hid rfl) ha hb hl hl2

end Go.Proofs.Qxb6604022a
