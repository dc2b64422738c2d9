/-
  THE SHELL OF A PROOF OF 'Rows.FnAppendJSONStringRoundTripSaid' ('example.com/keelstone/keelstone/zzlaws_pkg_canon_b1.FnAppendJSONStringRoundTrip'), WRITTEN BY PROGRAM (proof-skeleton.mjs, third state) off the guide's own print for that function. Not trusted: Lean checks it.
  THE WALK IS FILLED IN. ALL ELSE IS THE GUIDE's OWN WAY (howto/template/XProofs.lean; Derived/Test/ChunkProofs.lean for 'Below') at this function's number and types: leave it.
-/
import Derived.Test.Qxb6604022aRows
import Derived.WalkKit
import Derived.ProofKit
import Derived.OpenShut
import Derived.ShutString
import Derived.ChangeOld
import Derived.Below
import Derived.Test.Qxb6604022aWalkF
namespace Go.Proofs.Qxb6604022a.fnAppendJSONStringRoundTrip
open Go.ChangeShapes Go.WideShapes Go.ChangeAt Go.RowKit
open Go.ChangeMaps (open_string shut_string)
set_option linter.unusedVariables false

theorem own : ownKnob Try.prog.godebug = none := by kernel_rfl
theorem laidOut : laidOutB Try.prog = true := by kernel_rfl

/-- WHAT THE WALK IS TOLD OF A SLICE OF INTEGERS THAT CAME IN: it is nil; or it leads to a row of 'cap' cells, the numbers 'zs' (the first 'len' are its elements, the rest its spare room), each fitting its kind. -/
def IsRow (k : IntKind) (w : World) (a : Option Addr) (len cap : Nat) (zs : List Int) : Prop :=
  (a = none ∧ len = 0 ∧ cap = 0 ∧ zs = []) ∨
  ∃ x, a = some x ∧ len ≤ cap ∧ cap ≤ maxLen ∧ zs.length = cap ∧ (∀ i, i < zs.length → w.cell? (x.add i) = some (.int k (zs.getD i 0))) ∧ ∀ n ∈ zs, (Lit.int k n).wf = true

/-- appendJSONString onto nil, its value written out -/
theorem append_nil (a : Option Addr) (t : List Int) (n : Nat) (w : World) (hn : Hid (t.length = n)) (ht : Bytes w a t) (hnil : a = none → t = []) (hnl : n ≤ 1048576) (hby : ∀ c ∈ t, 0 ≤ c) :
    Calls Try.prog 10 #[.slice none 0 0, .slice a n n] w fun e w' => ∃ ag cg Q, (quoted t).length = Q ∧ e = .returned (.slice ag Q cg) ∧ Grow w none w' (.slice ag Q cg) (quoted t) ∧ Bytes w' ag (quoted t) := by
  refine (zzappend_any (.slice none 0 0) [] a t n w (Own.nil w) (by simp) hn ht hnil (fun x _ => by simp [Value.ownBlock]) hnl hby).mono ?_
  rintro e w' ⟨v', rfl, hG⟩
  have hG' : Grow w none w' v' (quoted t) := hG
  obtain ⟨ag, cg, hv, _, hb, _, _⟩ := hG'.own.shape
  subst hv
  exact ⟨ag, cg, _, rfl, rfl, hG', hb⟩

/-! ### STEP 1: THE WALK: the Go text returns true, AND WRITES NOTHING THAT WAS THERE: 'Below w.heap.size w w'' (Derived/Below.lean: '.refl', '.alloc', '.drew', '.setCell' at a new block, '.trans'). Open each 'IsRow' by 'rcases' AHEAD of 'go_enter'; part every test ahead of the walk. -/
set_option maxHeartbeats 4000000 in
theorem walk (a0 : Option Addr) (len0 cap0 : Nat) (z0 : List Int) (w : World) (w0 : IsRow .u8 w a0 len0 cap0 z0) :
    Calls Try.prog 4 #[.slice a0 len0 cap0] w fun e w' => e = .returned (.bool true) ∧ Below w.heap.size w w' := by
  obtain ⟨zt, hzt, hrt, hnilt, hbt⟩ := row_in a0 len0 cap0 z0 w w0
  have HNT : Hid (zt.length = len0) := hzt
  have HRT : Hid (Bytes w a0 zt) := hrt
  have HBT : Hid (∀ c ∈ zt, 0 ≤ c ∧ c ≤ 255) := hbt
  clear hzt hrt hbt w0
  by_cases hlen : len0 ≤ 1048576
  · go_enter Try.func4, Try.ntmps4
    go_wp2_with fail
    refine (zz12_yes a0 len0 cap0 _ hlen).mono ?_
    rintro e w' ⟨rfl, rfl⟩
    go_wp2_with fail
    refine (clone_is a0 zt len0 cap0 _ HNT HRT.out hlen hnilt).mono ?_
    rintro e w1 ⟨at', rfl, hot, hat, hnt, hbt, hB1⟩
    have HOT := hid hot
    have HAT := hid hat
    have HNT' := hid hnt
    have HBT1 := hid hbt
    have HB1 := hid hB1
    clear hot hat hnt hbt hB1
    go_wp2_with fail
    refine (append_nil at' zt len0 _ HNT HBT1.out HNT'.out hlen (fun c hc => (HBT.out c hc).1)).mono ?_
    rintro e w2 ⟨ag, cg, Q, hQ, rfl, hG, hbg⟩
    have hq := quoted_len zt
    have hqn : len0 + 2 ≤ Q ∧ Q ≤ 6 * len0 + 2 := by rw [HNT.out, hQ] at hq; exact hq
    have HQ := hid hQ
    have HG := hid hG
    have HBG := hid hbg
    have HOT2 := hid (HOT.out.grown hG.kept (by
      cases at' with
      | none => exact .inl rfl
      | some x => right; simp [Value.ownBlock]))
    have hq1 := hqn.1
    have hq2 := hqn.2
    clear hQ hG hbg hq hqn
    go_wp2_with fail
    refine (unquote_any ag zt Q cg _ HQ HBG.out (by have := HNT.out; omega) HBT.out).mono ?_
    rintro e w3 ⟨v3, rfl, hG3⟩
    have HO3 := hid hG3.own
    have HOT3 := hid (HOT2.out.grown hG3.kept (by
      cases at' with
      | none => exact .inl rfl
      | some x => right; simp [Value.ownBlock]))
    have HB3 : Hid (Below w.heap.size w w3) := by
      have k1 := HB1.out.size
      have k2 := HG.out.size
      have b2 : Below w.heap.size w w2 := HB1.out.trans (HG.out.below k1 (fun g hg => nomatch hg))
      exact b2.trans (hG3.below (by omega) (fun g hg => nomatch hg))
    have hzl : zt.length ≤ 1073741824 := by have := HNT.out; omega
    clear hG3
    go_wp2_with fail
    refine (equal_own v3 (.slice at' len0 len0) _ _ _ HO3.out HOT3.out hzl hzl).mono ?_
    rintro e w4 ⟨rfl, hB4⟩
    have HB4 : Hid (Below w.heap.size w w4) := HB3.out.trans (hB4.mono HB3.out.size)
    clear hB4
    go_wp2_with fail
    go_ret
    exact ⟨by simp, HB4.out⟩
  · go_enter Try.func4, Try.ntmps4
    go_wp2_with fail
    refine (zz12_no a0 len0 cap0 _ (by omega)).mono ?_
    rintro e w' ⟨rfl, rfl⟩
    go_wp2_with fail
    go_ret
    exact ⟨rfl, Below.refl _ _⟩

/-! ### THE ROW's STEP: WRITTEN OUT: LEAVE IT -/
set_option maxRecDepth 100000 in
theorem lifted (os : Os) (started : os.Started) (H : Type) (enc : TypeId × Value → H) :
    ReturnsInHanded {} Try.checked os 4 .any (Rows.fnAppendJSONStringRoundTripSpec.pre6 enc Try.prog Try.f4 Rows.fnAppendJSONStringRoundTripRow.domain false) (Rows.fnAppendJSONStringRoundTripSpec.post enc Try.prog Try.f4 false true false false) := by
  refine returnsInHanded_of_change (C := Try.checked) own started (by kernel_rfl) Try.func4
    (ChangeSpec.witness6 (enc := enc) (C := Try.checked) false ⟨#[], #[.slice none 0 0], []⟩ 8 (by kernel_rfl) (by kernel_rfl) (by kernel_rfl) (by kernel_rfl)) ?_
  intro W base args ds gs before hval0 hW hcnd _
  have hval : ∀ (j : Nat) t v, Try.f4.params[j]? = some t → args[j]? = some v → Value.okWide Try.prog W .any base t v := hval0
  have hW' := hW
  obtain ⟨p, q, hA0, hV, rfl, hfz, hnd⟩ := hW
  have hA : DataW.TrodAll enc Try.prog W 0 (fun _ => true) true Try.f4.params.toList args.toList ds p := hA0
  rw [Try.params4] at hA hval
  obtain ⟨v0, vs0, d0, ds0, p0, q0, hargs, rfl, rfl, h0, r0⟩ := trodAll_cons hA
  obtain ⟨rfl, rfl, rfl⟩ := trodAll_nil r0
  obtain rfl : args = #[v0] := by cases args; simp_all
  obtain ⟨rfl, rfl⟩ := trodVars_none hV
  obtain ⟨a0, len0, cap0, rfl⟩ := okWide_slice Try.underlying22 (hval 0 22 v0 rfl rfl)
  have k0 := h0
  have lt0 : ∀ x ∈ p0, x.block < W.heap.size := by obtain ⟨m, hm⟩ := k0; exact DataW.trod_lt m _ _ _ hm
  obtain ⟨z0, w0⟩ : ∃ zs, IsRow .u8 W a0 len0 cap0 zs := by
    obtain ⟨fuel, hf⟩ := h0
    rcases open_ints Try.underlying22 Try.underlying5 (by kernel_rfl) hf with ⟨hcs, _⟩ | ⟨x, l, c, zs, hcs, _, hl, hm, hz, _, hcell, hwz⟩
    · simp [Value.cells] at hcs
      obtain ⟨rfl, rfl, rfl⟩ := hcs
      exact ⟨[], .inl ⟨rfl, rfl, rfl, rfl⟩⟩
    · simp [Value.cells] at hcs
      obtain ⟨rfl, rfl, rfl⟩ := hcs
      exact ⟨zs, .inr ⟨_, rfl, hl, hm, by simpa using hz, hcell, hwz⟩⟩
  clear hA0 hval0
  refine (walk a0 len0 cap0 z0 W w0).mono fun e W' ⟨he, bel⟩ => ?_
  subst he
  exact ⟨_, rfl, _, _, _, [], _, [], hW', trodAll_mk1 (shut_bool Try.underlying4 _), (trodAll_cons_mk (Below.trod laidOut (by kernel_rfl) (of_decide_eq_true (by kernel_rfl)) k0 bel lt0) trodAll_mk0), rfl, bel.frame _, fun h => by cases h⟩

theorem over : Rows.fnAppendJSONStringRoundTripRow.holds Try.pinned (OpenSpec.ofChange Rows.fnAppendJSONStringRoundTripSpec) :=
  OpenClaim.holds_of_wide 4 Try.f4 rfl rfl rfl rfl rfl rfl rfl ⟨rfl, rfl, rfl, rfl, rfl⟩ rfl rfl rfl rfl rfl (by kernel_rfl) Try.func4 (by kernel_rfl)
    (of_decide_eq_true (by kernel_rfl)) (by unfold Func.isWrapper; first | (rw [if_pos (by decide +kernel)]; kernel_rfl) | (rw [if_neg (by decide +kernel)]; exact ⟨rfl, rfl⟩))
    (fun os started H enc _ => lifted os started H enc)

/-- ████ THE STATEMENT ████ -/
theorem proved : Rows.FnAppendJSONStringRoundTripSaid := over
#print axioms proved
end Go.Proofs.Qxb6604022a.fnAppendJSONStringRoundTrip
