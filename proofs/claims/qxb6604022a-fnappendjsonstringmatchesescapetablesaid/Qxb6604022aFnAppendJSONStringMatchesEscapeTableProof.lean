/-
  THE SHELL OF A PROOF OF 'Rows.FnAppendJSONStringMatchesEscapeTableSaid' ('example.com/keelstone/keelstone/zzlaws_pkg_canon_b1.FnAppendJSONStringMatchesEscapeTable'), WRITTEN BY PROGRAM (proof-skeleton.mjs, third state) off the guide's own print for that function. Not trusted: Lean checks it.
  THE WALK IS FILLED IN. ALL ELSE IS THE GUIDE's OWN WAY (howto/template/XProofs.lean; Derived/Test/ChunkProofs.lean for 'Below') at this function's number and types: leave it.
-/
import Derived.Test.Qxb6604022aRows
import Derived.WalkKit
import Derived.ProofKit
import Derived.OpenShut
import Derived.ShutString
import Derived.ChangeOld
import Derived.Below
import Derived.Test.Qxb6604022aWalkE
namespace Go.Proofs.Qxb6604022a.fnAppendJSONStringMatchesEscapeTable
open Go.ChangeShapes Go.WideShapes Go.ChangeAt Go.RowKit
open Go.ChangeMaps (open_string shut_string)
set_option linter.unusedVariables false

theorem own : ownKnob Try.prog.godebug = none := by kernel_rfl
theorem laidOut : laidOutB Try.prog = true := by kernel_rfl

/-- WHAT THE WALK IS TOLD OF A SLICE OF INTEGERS THAT CAME IN: it is nil; or it leads to a row of 'cap' cells, the numbers 'zs' (the first 'len' are its elements, the rest its spare room), each fitting its kind. -/
def IsRow (k : IntKind) (w : World) (a : Option Addr) (len cap : Nat) (zs : List Int) : Prop :=
  (a = none ∧ len = 0 ∧ cap = 0 ∧ zs = []) ∨
  ∃ x, a = some x ∧ len ≤ cap ∧ cap ≤ maxLen ∧ zs.length = cap ∧ (∀ i, i < zs.length → w.cell? (x.add i) = some (.int k (zs.getD i 0))) ∧ ∀ n ∈ zs, (Lit.int k n).wf = true

theorem isRow_len {w : World} {a : Option Addr} {len cap : Nat} {zs : List Int} (h : IsRow .u8 w a len cap zs) : len ≤ 9223372036854775807 := by
  rcases h with ⟨_, rfl, _, _⟩ | ⟨x, _, h1, h2, _⟩
  · omega
  · unfold maxLen at h2; omega
theorem _root_.Go.Proofs.Qxb6604022a.Own.below {w w' : World} {v : Value} {xs : List Int} (h : Own w v xs) (hb : Below w.heap.size w w') : Own w' v xs := by
  obtain ⟨h1, h2⟩ := h
  refine ⟨h1, ?_⟩
  rcases h2 with h2 | ⟨g, cap, cur, hv, hg, hh, r⟩
  · exact .inl h2
  · exact .inr ⟨g, cap, cur, hv, hg, by rw [hb.block g (Array.getElem?_eq_some_iff.1 hh).1]; exact hh, r⟩
theorem rows_apart {w1 w2 w3 : World} {a b : Option Addr} {n : Nat} (ha : ∀ x, a = some x → w1.heap.size ≤ x.block ∧ x.block < w2.heap.size) (hb : ∀ x, b = some x → w2.heap.size ≤ x.block ∧ x.block < w3.heap.size) (h : w2.heap.size ≤ w3.heap.size) :
    ∀ x, a = some x → (Value.slice b n n).ownBlock ≠ some x.block := by
  intro x hx
  cases b with
  | none => simp [Value.ownBlock]
  | some y =>
    have h1 := ha x hx
    have h2 := hb y rfl
    simp [Value.ownBlock]; omega
theorem rows_apart2 {w0 w1 w2 w3 : World} {a b : Option Addr} {n m : Nat} (ha : ∀ x, a = some x → w0.heap.size ≤ x.block ∧ x.block < w1.heap.size) (hb : ∀ x, b = some x → w2.heap.size ≤ x.block ∧ x.block < w3.heap.size) (h : w1.heap.size ≤ w2.heap.size) :
    (Value.slice a n n).ownBlock = none ∨ (Value.slice a n n).ownBlock ≠ (Value.slice b m m).ownBlock := by
  cases a with
  | none => exact .inl rfl
  | some x =>
    right
    cases b with
    | none => simp [Value.ownBlock]
    | some y =>
      have h1 := ha x rfl
      have h2 := hb y rfl
      simp [Value.ownBlock]; omega
theorem rows_apart3 {w0 w1 w2 : World} {a b : Option Addr} {n : Nat} (ha : ∀ x, a = some x → w0.heap.size ≤ x.block ∧ x.block < w1.heap.size) (hb : ∀ x, b = some x → w1.heap.size ≤ x.block ∧ x.block < w2.heap.size) :
    Apart (.slice a n n) b := by
  intro y hy
  cases a with
  | none => simp [Value.ownBlock]
  | some x =>
    have h1 := ha x rfl
    have h2 := hb y hy
    simp [Value.ownBlock]; omega

/-! ### STEP 1: THE WALK: the Go text returns true, AND WRITES NOTHING THAT WAS THERE: 'Below w.heap.size w w'' (Derived/Below.lean: '.refl', '.alloc', '.drew', '.setCell' at a new block, '.trans'). Open each 'IsRow' by 'rcases' AHEAD of 'go_enter'; part every test ahead of the walk. -/
set_option maxHeartbeats 4000000 in
theorem walk (a0 : Option Addr) (len0 cap0 : Nat) (z0 : List Int) (a1 : Option Addr) (len1 cap1 : Nat) (z1 : List Int) (w : World) (w0 : IsRow .u8 w a0 len0 cap0 z0) (w1 : IsRow .u8 w a1 len1 cap1 z1) :
    Calls Try.prog 3 #[.slice a0 len0 cap0, .slice a1 len1 cap1] w fun e w' => e = .returned (.bool true) ∧ Below w.heap.size w w' := by
  have hm0 : len0 ≤ 9223372036854775807 := isRow_len w0
  have hm1 : len1 ≤ 9223372036854775807 := isRow_len w1
  obtain ⟨zb, hzb, hrb, hnilb, hbb⟩ := row_in a0 len0 cap0 z0 w w0
  obtain ⟨zt, hzt, hrt, hnilt, hbt⟩ := row_in a1 len1 cap1 z1 w w1
  have HNB : Hid (zb.length = len0) := hzb
  have HNT : Hid (zt.length = len1) := hzt
  have HRB : Hid (Bytes w a0 zb) := hrb
  have HRT : Hid (Bytes w a1 zt) := hrt
  have HBT : Hid (∀ c ∈ zt, 0 ≤ c) := fun c hc => (hbt c hc).1
  clear hzb hzt hrb hrt hbb hbt w0 w1
  by_cases hlen : len0 + len1 ≤ 1048576
  · have hl0 : len0 ≤ 1048576 := by omega
    have hl1 : len1 ≤ 1048576 := by omega
    go_enter Try.func3, Try.ntmps3
    go_wp2_with fail
    refine (zz7_yes a0 a1 len0 len1 cap0 cap1 _ hlen).mono ?_
    rintro e w' ⟨rfl, rfl⟩
    go_wp2_with fail
    refine (clone_is a0 zb len0 cap0 _ HNB HRB.out hl0 hnilb).mono ?_
    rintro e w1 ⟨ab, rfl, hob, hab, hnb, hbb, hB1⟩
    have HRT1 := hid (HRT.out.below hB1)
    have HOB := hid hob
    have HAB := hid hab
    have HNB' := hid hnb
    have HBB := hid hbb
    have HB1 := hid hB1
    clear hob hab hnb hbb hB1
    go_wp2_with fail
    refine (clone_is a1 zt len1 cap1 _ HNT HRT1.out hl1 hnilt).mono ?_
    rintro e w2 ⟨at', rfl, hot, hat, hnt, hbt, hB2⟩
    have HOB2 := hid (HOB.out.below hB2)
    have HBB2 := hid (HBB.out.below hB2)
    have HAT := hid hat
    have HNT' := hid hnt
    have HBT2 := hid hbt
    have HB2 := hid hB2
    clear hot hat hnt hbt hB2
    go_wp2_with fail
    refine (clone_is ab zb len0 len0 _ HNB HBB2.out hl0 HNB'.out).mono ?_
    rintro e w3 ⟨aw, rfl, how, haw, hnw, hbw, hB3⟩
    have HOB3 := hid (HOB2.out.below hB3)
    have HBT3 := hid (HBT2.out.below hB3)
    have HAW := hid haw
    have HG0 := hid (Grow.start how)
    have HB3 := hid hB3
    -- how the three rows lie
    have HNEt : Hid (∀ x, at' = some x → (Value.slice aw len0 len0).ownBlock ≠ some x.block) := rows_apart HAT.out haw hB3.size
    have HNEb : Hid ((Value.slice ab len0 len0).ownBlock = none ∨ (Value.slice ab len0 len0).ownBlock ≠ (Value.slice aw len0 len0).ownBlock) := rows_apart2 HAB.out haw HB2.out.size
    have HAP : Hid (Apart (.slice ab len0 len0) at') := rows_apart3 HAB.out HAT.out
    obtain ⟨ow, how'⟩ : ∃ ow, (Value.slice aw len0 len0).ownBlock = ow := ⟨_, rfl⟩
    rw [how'] at HG0 HNEt HNEb
    have HOW := hid how'
    clear how haw hnw hbw hB3 how'
    go_wp2_with (at_builtin; refine wp_app rfl (.tmp 34) (.tmp 35) rfl rfl (HG0.out.alloc _) rfl [34] rfl (Bytes.new _ _) (fun h => nomatch h) (by have := HNB.out; simp; omega) ?_; intro v0 w40 hG0)
    go_loopw [5, 6] (fun b i wr => ∃ k : Nat, k ≤ len1 ∧ i = .int .i64 k ∧ Grow w3 ow wr b (zb ++ [34] ++ F zt k)) (fun _ i _ => len1 - (intOf i).toNat)
    case atStart => exact ⟨0, Nat.zero_le _, rfl, by rw [F_zero, List.append_nil]; exact hG0⟩
    case round =>
      clear hG0 HG0
      obtain ⟨k, hk, rfl, hG⟩ := hrel
      have HG := hid hG
      have HBTr := hid (hG.bytes HBT3.out HNEt.out)
      have hyl : (zb ++ [34] ++ F zt k).length ≤ 33554432 := by
        have := F_len zt k
        have h2 := HNT.out
        have h3 := HNB.out
        simp only [List.length_append, List.length_cons, List.length_nil]
        omega
      clear hG
      by_cases hlt : k < len1
      · obtain ⟨b, off, rfl, hc⟩ := HBTr.out.open (by have := HNT.out; omega)
        have hck := hc k (by have := HNT.out; omega)
        obtain ⟨x, hx⟩ : ∃ x, zt.getD k 0 = x := ⟨_, rfl⟩
        rw [hx] at hck
        have hkl : k < zt.length := by have := HNT.out; omega
        have hx0 : 0 ≤ x := by
          rw [← hx]
          have : zt.getD k 0 ∈ zt := by simp [List.getD, hkl]
          exact HBT.out _ this
        have HF := hid (F_succ zt k hkl x hx)
        clear hc hx hkl
        obtain ⟨ys, hys⟩ : ∃ ys, ys = zb ++ [34] ++ F zt k := ⟨_, rfl⟩
        rw [← hys] at hyl HG
        have HY := hid hys
        clear hys
        go_wp2_with (go_at_call 9; refine (escape_any u5 ys x _ HG.out.own (by omega) hx0).mono ?_; rintro e w5 ⟨v5, rfl, hG5⟩)
        go_roundw
        case rel => exact ⟨k + 1, by omega, by go_num, by rw [HF.out, ← List.append_assoc, ← HY.out]; exact HG.out.trans hG5⟩
        case measure => simp [intOf]; omega
      · have hkn : k = len1 := by omega
        have HF : Hid (F zt k = zt.flatMap Plain.esc) := by rw [hkn, ← HNT.out, F_all]; exact hid rfl
        rw [HF.out] at HG hyl
        have HFl : Hid ((zb ++ [34] ++ zt.flatMap Plain.esc ++ [34]).length ≤ 33554433) := by
          simp only [List.length_append, List.length_cons, List.length_nil] at hyl ⊢
          exact hid (by omega)
        obtain ⟨ys, hys⟩ : ∃ ys, ys = zb ++ [34] ++ zt.flatMap Plain.esc := ⟨_, rfl⟩
        rw [← hys] at hyl HG HFl
        have HY := hid hys
        clear hys hkn HF
        go_wp2_with (first
          | (at_builtin; refine wp_app rfl (.tmp 49) (.tmp 50) rfl rfl (HG.out.alloc _) rfl [34] rfl (Bytes.new _ _) (fun h => nomatch h) (by simp; omega) ?_; intro v6 w6 hG6)
          | fail)
        have HOB6 := hid (HOB3.out.grown hG6.kept HNEb.out)
        have HBT6 := hid (hG6.bytes HBT3.out HNEt.out)
        have HG6 := hid hG6
        clear hG6
        refine (zzappend_any (.slice ab len0 len0) zb at' zt len1 _ HOB6.out (by have := HNB.out; omega) HNT HBT6.out HNT'.out HAP.out hl1 HBT.out).mono ?_
        rintro e w7 ⟨v7, rfl, hG7⟩
        have hE : zb ++ [34] ++ zt.flatMap Plain.esc ++ [34] = ys ++ [34] := by rw [HY.out]
        rw [hE] at hG7
        have HO7 := hid hG7.own
        have HOW7 : Hid (Own w7 v6 (ys ++ [34])) := HG6.out.own.grown hG7.kept (by
          rcases HG6.out.place with e | ⟨g, e, hge⟩
          · rw [e]
            rcases HNEb.out with e2 | e2
            · rw [e2]
              cases hq : ow with
              | none => exact .inl rfl
              | some g => right; simp
            · right; exact fun e3 => e2 e3.symm
          · right
            rw [e]
            cases ab with
            | none => simp [Value.ownBlock]
            | some x =>
              have h1 := HAB.out x rfl
              have h2 := HB2.out.size
              have h3 := HB3.out.size
              simp [Value.ownBlock]; omega)
        have HB7 : Hid (Below w.heap.size w w7) := by
          have k1 := HB1.out.size
          have k2 := HB2.out.size
          have k3 := HB3.out.size
          have k6 := HG6.out.size
          have b3 : Below w.heap.size w w3 := HB1.out.trans ((HB2.out.mono k1).trans (HB3.out.mono (by omega)))
          have b6 : Below w.heap.size w w6 := b3.trans (HG6.out.below (by omega) (fun g hg => by
            rw [← HOW.out] at hg
            cases aw with
            | none => simp [Value.ownBlock] at hg
            | some y => have := HAW.out y rfl; simp [Value.ownBlock] at hg; omega))
          exact b6.trans (hG7.below (by omega) (fun g hg => by
            cases ab with
            | none => simp [Value.ownBlock] at hg
            | some y => have := HAB.out y rfl; simp [Value.ownBlock] at hg; omega))
        clear hG7 hE
        have hyl2 : (ys ++ [34]).length ≤ 1073741824 := by simp; omega
        go_wp2_with fail
        refine (equal_own v7 v6 _ _ _ HO7.out HOW7.out hyl2 hyl2).mono ?_
        rintro e w8 ⟨rfl, hB8⟩
        have HB8 : Hid (Below w.heap.size w w8) := HB7.out.trans (hB8.mono HB7.out.size)
        clear hB8
        go_wp2_with fail
        go_ret
        exact ⟨by simp, HB8.out⟩
  · go_enter Try.func3, Try.ntmps3
    go_wp2_with fail
    refine (zz7_no a0 a1 len0 len1 cap0 cap1 _ hm0 hm1 (by omega)).mono ?_
    rintro e w' ⟨rfl, rfl⟩
    go_wp2_with fail
    go_ret
    exact ⟨rfl, Below.refl _ _⟩

/-! ### THE ROW's STEP: WRITTEN OUT: LEAVE IT -/
set_option maxRecDepth 100000 in
theorem lifted (os : Os) (started : os.Started) (H : Type) (enc : TypeId × Value → H) :
    ReturnsInHanded {} Try.checked os 3 .any (Rows.fnAppendJSONStringMatchesEscapeTableSpec.pre6 enc Try.prog Try.f3 Rows.fnAppendJSONStringMatchesEscapeTableRow.domain false) (Rows.fnAppendJSONStringMatchesEscapeTableSpec.post enc Try.prog Try.f3 false true false false) := by
  refine returnsInHanded_of_change (C := Try.checked) own started (by kernel_rfl) Try.func3
    (ChangeSpec.witness6 (enc := enc) (C := Try.checked) false ⟨#[], #[.slice none 0 0, .slice none 0 0], []⟩ 8 (by kernel_rfl) (by kernel_rfl) (by kernel_rfl) (by kernel_rfl)) ?_
  intro W base args ds gs before hval0 hW hcnd _
  have hval : ∀ (j : Nat) t v, Try.f3.params[j]? = some t → args[j]? = some v → Value.okWide Try.prog W .any base t v := hval0
  have hW' := hW
  obtain ⟨p, q, hA0, hV, rfl, hfz, hnd⟩ := hW
  have hA : DataW.TrodAll enc Try.prog W 0 (fun _ => true) true Try.f3.params.toList args.toList ds p := hA0
  rw [Try.params3] at hA hval
  obtain ⟨v0, vs0, d0, ds0, p0, q0, hargs, rfl, rfl, h0, r0⟩ := trodAll_cons hA
  obtain ⟨v1, vs1, d1, ds1, p1, q1, rfl, rfl, rfl, h1, r1⟩ := trodAll_cons r0
  obtain ⟨rfl, rfl, rfl⟩ := trodAll_nil r1
  obtain rfl : args = #[v0, v1] := by cases args; simp_all
  obtain ⟨rfl, rfl⟩ := trodVars_none hV
  obtain ⟨a0, len0, cap0, rfl⟩ := okWide_slice Try.underlying22 (hval 0 22 v0 rfl rfl)
  have k0 := h0
  have lt0 : ∀ x ∈ p0, x.block < W.heap.size := by obtain ⟨m, hm⟩ := k0; exact DataW.trod_lt m _ _ _ hm
  obtain ⟨z0, w0⟩ : ∃ zs, IsRow .u8 W a0 len0 cap0 zs := by
    obtain ⟨fuel, hf⟩ := h0
    rcases open_ints Try.underlying22 Try.underlying5 (by kernel_rfl) hf with ⟨hcs, _⟩ | ⟨x, l, c, zs, hcs, _, hl, hm, hz, _, hcell, hwz⟩
    · simp [Value.cells] at hcs
      obtain ⟨rfl, rfl, rfl⟩ := hcs
      exact ⟨[], .inl ⟨rfl, rfl, rfl, rfl⟩⟩
    · simp [Value.cells] at hcs
      obtain ⟨rfl, rfl, rfl⟩ := hcs
      exact ⟨zs, .inr ⟨_, rfl, hl, hm, by simpa using hz, hcell, hwz⟩⟩
  obtain ⟨a1, len1, cap1, rfl⟩ := okWide_slice Try.underlying22 (hval 1 22 v1 rfl rfl)
  have k1 := h1
  have lt1 : ∀ x ∈ p1, x.block < W.heap.size := by obtain ⟨m, hm⟩ := k1; exact DataW.trod_lt m _ _ _ hm
  obtain ⟨z1, w1⟩ : ∃ zs, IsRow .u8 W a1 len1 cap1 zs := by
    obtain ⟨fuel, hf⟩ := h1
    rcases open_ints Try.underlying22 Try.underlying5 (by kernel_rfl) hf with ⟨hcs, _⟩ | ⟨x, l, c, zs, hcs, _, hl, hm, hz, _, hcell, hwz⟩
    · simp [Value.cells] at hcs
      obtain ⟨rfl, rfl, rfl⟩ := hcs
      exact ⟨[], .inl ⟨rfl, rfl, rfl, rfl⟩⟩
    · simp [Value.cells] at hcs
      obtain ⟨rfl, rfl, rfl⟩ := hcs
      exact ⟨zs, .inr ⟨_, rfl, hl, hm, by simpa using hz, hcell, hwz⟩⟩
  clear hA0 hval0
  refine (walk a0 len0 cap0 z0 a1 len1 cap1 z1 W w0 w1).mono fun e W' ⟨he, bel⟩ => ?_
  subst he
  exact ⟨_, rfl, _, _, _, [], _, [], hW', trodAll_mk1 (shut_bool Try.underlying4 _), (trodAll_cons_mk (Below.trod laidOut (by kernel_rfl) (of_decide_eq_true (by kernel_rfl)) k0 bel lt0) (trodAll_cons_mk (Below.trod laidOut (by kernel_rfl) (of_decide_eq_true (by kernel_rfl)) k1 bel lt1) trodAll_mk0)), rfl, bel.frame _, fun h => by cases h⟩

theorem over : Rows.fnAppendJSONStringMatchesEscapeTableRow.holds Try.pinned (OpenSpec.ofChange Rows.fnAppendJSONStringMatchesEscapeTableSpec) :=
  OpenClaim.holds_of_wide 3 Try.f3 rfl rfl rfl rfl rfl rfl rfl ⟨rfl, rfl, rfl, rfl, rfl⟩ rfl rfl rfl rfl rfl (by kernel_rfl) Try.func3 (by kernel_rfl)
    (of_decide_eq_true (by kernel_rfl)) (by unfold Func.isWrapper; first | (rw [if_pos (by decide +kernel)]; kernel_rfl) | (rw [if_neg (by decide +kernel)]; exact ⟨rfl, rfl⟩))
    (fun os started H enc _ => lifted os started H enc)

/-- ████ THE STATEMENT ████ -/
theorem proved : Rows.FnAppendJSONStringMatchesEscapeTableSaid := over
#print axioms proved
end Go.Proofs.Qxb6604022a.fnAppendJSONStringMatchesEscapeTable
