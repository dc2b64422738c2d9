/-
  THE PROOF OF 'Rows.FnRepeatsMatchesMemberSetSaid': the frame is that of the seat's shell (proof-skeleton.mjs), turned to a slice of bytes, a slice of arrays of four ints, two ints and a Boolean; the walk lies in Qxb6604022aRepN.
-/
import Derived.Test.Qxb6604022aRows
import Derived.WalkKit
import Derived.ProofKit
import Derived.OpenShut
import Derived.ShutString
import Derived.ChangeOld
import Derived.Below
import Derived.Deep.Slices
import Derived.Laws.IdiomArrays
import Derived.Test.Qxb6604022aRepN
namespace Go.Proofs.Qxb6604022a.fnRepeatsMatchesMemberSet
open Go.ChangeShapes Go.WideShapes Go.ChangeAt Go.RowKit
open Go.Deep (open_slice choose_lt)
set_option linter.unusedVariables false

theorem own : ownKnob Try.prog.godebug = none := by kernel_rfl
theorem laidOut : laidOutB Try.prog = true := by kernel_rfl
theorem under37 : Try.prog.underlying 37 = some (.array 4 3) := by kernel_rfl
theorem cells37 : Try.prog.cellsOf 37 = 4 := by kernel_rfl
theorem cells3 : Try.prog.cellsOf 3 = 1 := by kernel_rfl

/-- WHAT THE WALK IS TOLD OF A SLICE OF BYTES THAT CAME IN. -/
def IsBytes (w : World) (a : Option Addr) (len cap : Nat) (zs : List Int) : Prop :=
  (a = none ∧ len = 0 ∧ cap = 0 ∧ zs = []) ∨ ∃ x, a = some x ∧ len ≤ cap ∧ cap ≤ maxLen ∧ zs.length = cap ∧ (∀ i, i < zs.length → w.cell? (x.add i) = some (.int .u8 (zs.getD i 0))) ∧ ∀ n ∈ zs, (Lit.int .u8 n).wf = true

theorem byte_wf {n : Int} (h : (Lit.int .u8 n).wf = true) : 0 ≤ n ∧ n ≤ 255 := by
  exact bounds_u8 h

theorem bytes_in (a : Option Addr) (len cap : Nat) (zs : List Int) (w : World) (h : IsBytes w a len cap zs) :
    ∃ z : List Int, z.length = len ∧ Bytes w a z ∧ (a = none → z = []) ∧ Byt z ∧ len ≤ 9223372036854775807 := by
  rcases h with ⟨rfl, rfl, rfl, rfl⟩ | ⟨x, rfl, h1, h2, h3, h4, h5⟩
  · exact ⟨[], rfl, .inl rfl, (fun _ => rfl), (fun c hc => nomatch hc), by omega⟩
  · refine ⟨zs.take len, by simp; omega, ?_, (fun h => nomatch h), (fun c hc => byte_wf (h5 c (List.mem_of_mem_take hc))), by unfold maxLen at h2; omega⟩
    by_cases h0 : len = 0
    · subst h0; exact .inl (by simp)
    · obtain ⟨b, off, spot⟩ := x
      have hspot : spot = none := by simpa [Addr.add] using World.cell?_spot (h4 0 (by omega))
      subst hspot
      refine .inr ⟨b, off, rfl, fun k hk => ?_⟩
      have hk' : k < len := by simp at hk; omega
      rw [← Addr.add_lit, h4 k (by omega)]
      simp [List.getD, hk']

/-- a slice of arrays of four ints that came in -/
theorem mems_in {H : Type} {enc : TypeId × Value → H} {W : World} {base : Nat} {spare : Nat → Bool} {held : Bool} {fuel : Nat} (a : Option Addr) (len cap : Nat) {x : DataW H × List MemPlace}
    (h : DataW.trod enc Try.prog W base spare held fuel 30 [.slice a len cap] = some x) :
    ∃ M : List Mem, M.length = len ∧ Mems W a M ∧ (a = none → M = []) ∧ len ≤ 9223372036854775807 := by
  rcases open_slice Try.underlying30 h with ⟨hcs, _⟩ | ⟨x', l, c, m, n, D, Pl, hcs, _, hl, hm, hmm, _, hx⟩
  · simp at hcs
    obtain ⟨rfl, rfl, rfl⟩ := hcs
    exact ⟨[], rfl, .inl rfl, (fun _ => rfl), by omega⟩
  · simp at hcs
    obtain ⟨rfl, rfl, rfl⟩ := hcs
    have hlm : len ≤ m := by rw [hmm]; split <;> omega
    have each : ∀ i, i < len → ∃ q : Mem, W.cell? (x'.add (i * 4)) = some (.int .i64 q.1) ∧ W.cell? (x'.add (i * 4 + 1)) = some (.int .i64 q.2.1) ∧ W.cell? (x'.add (i * 4 + 2)) = some (.int .i64 q.2.2.1) ∧ W.cell? (x'.add (i * 4 + 3)) = some (.int .i64 q.2.2.2) := by
      intro i hi
      obtain ⟨cs', h1, h2⟩ := hx i (by omega)
      rw [cells37] at h1
      obtain ⟨_, hlen, hc⟩ := World.cells?_some h1
      match cs', hlen, h2, hc with
      | [c0, c1, c2, c3], _, h2, hc =>
        obtain ⟨y0, y1, y2, y3, n', _, t0, t1, t2, t3⟩ := trod_array4 under37 cells3 h2
        obtain ⟨q0, e0, _⟩ := DataW.trod_int Try.underlying3 t0
        obtain ⟨q1, e1, _⟩ := DataW.trod_int Try.underlying3 t1
        obtain ⟨q2, e2, _⟩ := DataW.trod_int Try.underlying3 t2
        obtain ⟨q3, e3, _⟩ := DataW.trod_int Try.underlying3 t3
        have c0' := hc 0 (by omega)
        have c1' := hc 1 (by omega)
        have c2' := hc 2 (by omega)
        have c3' := hc 3 (by omega)
        rw [Addr.add_add] at c0' c1' c2' c3'
        simp at e0 e1 e2 e3
        subst e0 e1 e2 e3
        exact ⟨(q0, q1, q2, q3), by simpa using c0', by simpa using c1', by simpa using c2', by simpa using c3'⟩
    obtain ⟨V, hV⟩ := choose_lt each
    refine ⟨(List.range len).map V, by simp, ?_, (fun h => nomatch h), by unfold maxLen at hm; omega⟩
    by_cases h0 : len = 0
    · subst h0; exact .inl (by simp)
    · obtain ⟨b, off, spot⟩ := x'
      have hspot : spot = none := by simpa [Addr.add] using World.cell?_spot (hV 0 (by omega)).1
      subst hspot
      refine .inr ⟨b, off, rfl, fun k hk => ?_⟩
      have hk' : k < len := by simpa using hk
      have hg : ((List.range len).map V).getD k (0, 0, 0, 0) = V k := by simp [List.getD, hk']
      rw [hg]
      have := hV k hk'
      simp only [Addr.add_lit] at this
      exact this

/-! ### THE ROW's STEP -/
set_option maxRecDepth 100000 in
theorem lifted (os : Os) (started : os.Started) (H : Type) (enc : TypeId × Value → H) :
    ReturnsInHanded {} Try.checked os 5 .any (Rows.fnRepeatsMatchesMemberSetSpec.pre6 enc Try.prog Try.f5 Rows.fnRepeatsMatchesMemberSetRow.domain false) (Rows.fnRepeatsMatchesMemberSetSpec.post enc Try.prog Try.f5 false true false false) := by
  refine returnsInHanded_of_change (C := Try.checked) own started (by kernel_rfl) Try.func5
    (ChangeSpec.witness6 (enc := enc) (C := Try.checked) false ⟨#[], #[.slice none 0 0, .slice none 0 0, .int .i64 0, .int .i64 0, .bool false], []⟩ 8 (by kernel_rfl) (by kernel_rfl) (by kernel_rfl) (by kernel_rfl)) ?_
  intro W base args ds gs before hval0 hW hcnd _
  have hval : ∀ (j : Nat) t v, Try.f5.params[j]? = some t → args[j]? = some v → Value.okWide Try.prog W .any base t v := hval0
  have hW' := hW
  obtain ⟨p, q, hA0, hV, rfl, hfz, hnd⟩ := hW
  have hA : DataW.TrodAll enc Try.prog W 0 (fun _ => true) true Try.f5.params.toList args.toList ds p := hA0
  rw [Try.params5] at hA hval
  obtain ⟨v0, vs0, d0, ds0, p0, q0, hargs, rfl, rfl, h0, r0⟩ := trodAll_cons hA
  obtain ⟨v1, vs1, d1, ds1, p1, q1, rfl, rfl, rfl, h1, r1⟩ := trodAll_cons r0
  obtain ⟨v2, vs2, d2, ds2, p2, q2, rfl, rfl, rfl, h2, r2⟩ := trodAll_cons r1
  obtain ⟨v3, vs3, d3, ds3, p3, q3, rfl, rfl, rfl, h3, r3⟩ := trodAll_cons r2
  obtain ⟨v4, vs4, d4, ds4, p4, q4, rfl, rfl, rfl, h4, r4⟩ := trodAll_cons r3
  obtain ⟨rfl, rfl, rfl⟩ := trodAll_nil r4
  obtain rfl : args = #[v0, v1, v2, v3, v4] := by cases args; simp_all
  obtain ⟨rfl, rfl⟩ := trodVars_none hV
  obtain ⟨a0, len0, cap0, rfl⟩ := okWide_slice Try.underlying22 (hval 0 22 v0 rfl rfl)
  have k0 := h0
  have lt0 : ∀ x ∈ p0, x.block < W.heap.size := by obtain ⟨m, hm⟩ := k0; exact DataW.trod_lt m _ _ _ hm
  obtain ⟨z0, w0⟩ : ∃ zs, IsBytes W a0 len0 cap0 zs := by
    obtain ⟨fuel, hf⟩ := h0
    rcases open_ints Try.underlying22 Try.underlying5 (by kernel_rfl) hf with ⟨hcs, _⟩ | ⟨x, l, c, zs, hcs, _, hl, hm, hz, _, hcell, hwz⟩
    · simp [Value.cells] at hcs
      obtain ⟨rfl, rfl, rfl⟩ := hcs
      exact ⟨[], .inl ⟨rfl, rfl, rfl, rfl⟩⟩
    · simp [Value.cells] at hcs
      obtain ⟨rfl, rfl, rfl⟩ := hcs
      exact ⟨zs, .inr ⟨_, rfl, hl, hm, by simpa using hz, hcell, hwz⟩⟩
  obtain ⟨a1, len1, cap1, rfl⟩ := okWide_slice Try.underlying30 (hval 1 30 v1 rfl rfl)
  have k1 := h1
  have lt1 : ∀ x ∈ p1, x.block < W.heap.size := by obtain ⟨m, hm⟩ := k1; exact DataW.trod_lt m _ _ _ hm
  obtain ⟨M, hn1, hM, hnil1, hl1⟩ : ∃ M : List Mem, M.length = len1 ∧ Mems W a1 M ∧ (a1 = none → M = []) ∧ len1 ≤ 9223372036854775807 := by
    obtain ⟨fuel, hf⟩ := h1
    exact mems_in a1 len1 cap1 hf
  obtain ⟨f, rfl, rfl, rfl, wf2⟩ := open_int Try.underlying3 (hval 2 3 v2 rfl rfl) h2
  obtain ⟨k, rfl, rfl, rfl, wf3⟩ := open_int Try.underlying3 (hval 3 3 v3 rfl rfl) h3
  obtain ⟨made, rfl, rfl, rfl⟩ := open_bool Try.underlying4 (hval 4 4 v4 rfl rfl) h4
  obtain ⟨O, hn0, hO, hnil0, hby, hl0⟩ := bytes_in a0 len0 cap0 z0 W w0
  clear hA0 hval0
  refine (member_walk a0 a1 O M len0 len1 cap0 cap1 f k made W hn0 hn1 hO hM hby hl0 hl1 hnil0 hnil1).mono fun e W' ⟨he, bel⟩ => ?_
  subst he
  exact ⟨_, rfl, _, _, _, [], _, [], hW', trodAll_mk1 (shut_bool Try.underlying4 _),
    (trodAll_cons_mk (Below.trod laidOut (by kernel_rfl) (of_decide_eq_true (by kernel_rfl)) k0 bel lt0) (trodAll_cons_mk (Below.trod laidOut (by kernel_rfl) (of_decide_eq_true (by kernel_rfl)) k1 bel lt1)
      (trodAll_cons_mk (shut_int Try.underlying3 wf2) (trodAll_cons_mk (shut_int Try.underlying3 wf3) (trodAll_cons_mk (shut_bool Try.underlying4 _) trodAll_mk0))))), rfl, bel.frame _, fun h => by cases h⟩

theorem over : Rows.fnRepeatsMatchesMemberSetRow.holds Try.pinned (OpenSpec.ofChange Rows.fnRepeatsMatchesMemberSetSpec) :=
  OpenClaim.holds_of_wide 5 Try.f5 rfl rfl rfl rfl rfl rfl rfl ⟨rfl, rfl, rfl, rfl, rfl⟩ rfl rfl rfl rfl rfl (by kernel_rfl) Try.func5 (by kernel_rfl)
    (of_decide_eq_true (by kernel_rfl)) (by unfold Func.isWrapper; first | (rw [if_pos (by decide +kernel)]; kernel_rfl) | (rw [if_neg (by decide +kernel)]; exact ⟨rfl, rfl⟩))
    (fun os started H enc _ => lifted os started H enc)

/-- ████ THE STATEMENT ████ -/
theorem proved : Rows.FnRepeatsMatchesMemberSetSaid := over
#print axioms proved
end Go.Proofs.Qxb6604022a.fnRepeatsMatchesMemberSet
