/-
  ZZRepeats: the members are copied, the parser is laid, repeats is called.
-/
import Derived.Test.Qxb6604022aRepD
namespace Go.Proofs.Qxb6604022a
open Go.ChangeShapes Go.WideShapes Go.ChangeAt Go.RowKit
set_option linter.unusedVariables false

theorem Try.info50 : (Try.prog.info? 50).map (fun i => (i.zero, i.size, i.bytes)) = some (some (.agg #[.int .i64 0, .int .i64 0, .int .i64 0, .int .i64 0]), 4, 32) := by kernel_rfl

/-- a row of n members at block g, the first j of them those of M; the rest whatever -/
structure Row4 (w : World) (g n j : Nat) (M : List (Int × Int × Int × Int)) : Prop where
  cells : ∃ arr : Array Value, w.heap[g]? = some (.cells arr 50 (0, 0)) ∧ arr.size = n * 4
  done : ∀ i, i < j → w.cell? ⟨g, i * 4, none⟩ = some (.int .i64 (M.getD i (0, 0, 0, 0)).1) ∧ w.cell? ⟨g, i * 4 + 1, none⟩ = some (.int .i64 (M.getD i (0, 0, 0, 0)).2.1) ∧
    w.cell? ⟨g, i * 4 + 2, none⟩ = some (.int .i64 (M.getD i (0, 0, 0, 0)).2.2.1) ∧ w.cell? ⟨g, i * 4 + 3, none⟩ = some (.int .i64 (M.getD i (0, 0, 0, 0)).2.2.2)

theorem Row4.there {w : World} {g n j : Nat} {M : List (Int × Int × Int × Int)} (h : Row4 w g n j M) (o : Nat) (ho : o < n * 4) : ∃ v, w.cell? ⟨g, o, none⟩ = some v := by
  obtain ⟨arr, h1, h2⟩ := h.cells
  rw [cell_of_row w g o arr 50 (0, 0) h1]
  exact ⟨_, Array.getElem?_eq_getElem (by omega)⟩
theorem Row4.free {w : World} {g n j : Nat} {M : List (Int × Int × Int × Int)} (h : Row4 w g n j M) (o : Nat) : w.frozen? ⟨g, o, none⟩ = false := by
  obtain ⟨arr, h1, h2⟩ := h.cells
  simp [World.frozen?, h1]

theorem row_setCell {w : World} {g o : Nat} {arr : Array Value} {t : TypeId} {v : Value} (h : w.heap[g]? = some (.cells arr t (0, 0))) : ∃ arr', (w.setCell ⟨g, o, none⟩ v).heap[g]? = some (.cells arr' t (0, 0)) ∧ arr'.size = arr.size := by
  have hlt : g < w.heap.size := (Array.getElem?_eq_some_iff.1 h).1
  have h' : w.heap[g] = .cells arr t (0, 0) := by simpa [Array.getElem?_eq_getElem hlt] using h
  refine ⟨arr.setIfInBounds o v, ?_, by simp⟩
  show (w.heap.modify g _)[g]? = _
  rw [Array.getElem?_eq_getElem (by simpa using hlt), Array.getElem_modify_self, h']
  rfl
theorem drew_cell (w : World) (a : Addr) : w.drew.cell? a = w.cell? a := rfl

theorem Row4.set {w : World} {g n j : Nat} {M : List (Int × Int × Int × Int)} (h : Row4 w g n j M) (hj : j < n) {x0 x1 x2 x3 : Int} (hx : M.getD j (0, 0, 0, 0) = (x0, x1, x2, x3)) :
    Row4 ((((w.setCell ⟨g, j * 4, none⟩ (.int .i64 x0)).setCell ⟨g, j * 4 + 1, none⟩ (.int .i64 x1)).setCell ⟨g, j * 4 + 2, none⟩ (.int .i64 x2)).setCell ⟨g, j * 4 + 3, none⟩ (.int .i64 x3)).drew g n (j + 1) M := by
  have e : (((w.setCell ⟨g, j * 4, none⟩ (.int .i64 x0)).setCell ⟨g, j * 4 + 1, none⟩ (.int .i64 x1)).setCell ⟨g, j * 4 + 2, none⟩ (.int .i64 x2)).setCell ⟨g, j * 4 + 3, none⟩ (.int .i64 x3) = w.setCells g (j * 4) [.int .i64 x0, .int .i64 x1, .int .i64 x2, .int .i64 x3] := rfl
  have hin := World.cell?_setCells_in g [.int .i64 x0, .int .i64 x1, .int .i64 x2, .int .i64 x3] (j * 4) w (fun i hi => by
    obtain ⟨v, hv⟩ := h.there (j * 4 + i) (by simp at hi; omega)
    rw [hv]; rfl)
  refine ⟨?_, fun i hi => ?_⟩
  · obtain ⟨a0, h0, s0⟩ := h.cells
    obtain ⟨a1, h1, s1⟩ := row_setCell (o := j * 4) (v := .int .i64 x0) h0
    obtain ⟨a2, h2, s2⟩ := row_setCell (o := j * 4 + 1) (v := .int .i64 x1) h1
    obtain ⟨a3, h3, s3⟩ := row_setCell (o := j * 4 + 2) (v := .int .i64 x2) h2
    obtain ⟨a4, h4, s4⟩ := row_setCell (o := j * 4 + 3) (v := .int .i64 x3) h3
    exact ⟨a4, h4, by omega⟩
  · by_cases hij : i = j
    · subst hij
      rw [hx]
      refine ⟨?_, ?_, ?_, ?_⟩
      · rw [drew_cell, e]; exact hin 0 (by simp)
      · rw [drew_cell, e]; exact hin 1 (by simp)
      · rw [drew_cell, e]; exact hin 2 (by simp)
      · rw [drew_cell, e]; exact hin 3 (by simp)
    · obtain ⟨d0, d1, d2, d3⟩ := h.done i (by omega)
      refine ⟨?_, ?_, ?_, ?_⟩
      · rw [drew_cell, e, World.cell?_setCells_out g _ _ _ _ (fun _ _ => by simp; omega)]; exact d0
      · rw [drew_cell, e, World.cell?_setCells_out g _ _ _ _ (fun _ _ => by simp; omega)]; exact d1
      · rw [drew_cell, e, World.cell?_setCells_out g _ _ _ _ (fun _ _ => by simp; omega)]; exact d2
      · rw [drew_cell, e, World.cell?_setCells_out g _ _ _ _ (fun _ _ => by simp; omega)]; exact d3
theorem Row4.mems {w : World} {g n : Nat} {M : List (Int × Int × Int × Int)} (h : Row4 w g n n M) (hn : M.length = n) : Mems w (some ⟨g, 0, none⟩) M :=
  .inr ⟨g, 0, rfl, fun i hi => by simpa using h.done i (by omega)⟩
theorem made_row4 {w1 : World} {base g n : Nat} {xs : List Value} {M : List (Int × Int × Int × Int)} (h : w1.ownsRow base 50 4 (.slice (some ⟨g, 0, none⟩) n n) n xs) : Row4 w1 g n 0 M := by
  refine ⟨?_, fun i hi => absurd hi (by omega)⟩
  rcases h.2 with ⟨h, _⟩ | ⟨g', cap, cur, hv, _, hg, _, _, hs, _⟩
  · simp at h
  · simp at hv
    obtain ⟨rfl, rfl⟩ := hv
    exact ⟨cur, hg, hs⟩

set_option maxRecDepth 100000 in
set_option maxHeartbeats 2000000 in
theorem zzrep_any (ao : Option Addr) (no co : Nat) (am : Option Addr) (M : List (Int × Int × Int × Int)) (nm cm SB f k : Nat) (w : World) (Post : Bool → World → Prop)
    (hnm : Hid (M.length = nm)) (hM : Mems w am M) (hnml : nm ≤ 1048575)
    (hcall : ∀ (wq : World) (PB g : Nat), w.heap.size ≤ PB → w.heap.size ≤ g → Below w.heap.size w wq → wq.cell? ⟨PB, 2, none⟩ = some (.slice ao no co) → wq.cell? ⟨PB, 3, none⟩ = some (.slice (some ⟨g, 0, none⟩) nm nm) →
      Mems wq (some ⟨g, 0, none⟩) M → Calls Try.prog 25 #[.pointer (some ⟨PB, 0, none⟩), .int .i64 f, .int .i64 k, .pointer (some ⟨SB, 0, none⟩)] wq fun e w' => ∃ r, e = .returned (.bool r) ∧ Post r w') :
    Calls Try.prog 18 #[.slice ao no co, .slice am nm cm, .int .i64 f, .int .i64 k, .pointer (some ⟨SB, 0, none⟩)] w fun e w' => ∃ r, e = .returned (.bool r) ∧ Post r w' := by
  obtain ⟨i0, hi, hz0, hz1, hz2⟩ := info_parts Try.info50
  have HI : Hid (Try.prog.info? 50 = some i0) := hi
  have HB : Hid (i0.bytes = 32) := hz2
  have HZ : Hid (i0.zero = some (.agg #[.int .i64 0, .int .i64 0, .int .i64 0, .int .i64 0])) := hz0
  have HS : Hid (i0.size = 4) := hz1
  have HM := hid hM
  have HC := hid hcall
  clear hi hz0 hz1 hz2 hM hcall
  go_enter Try.func18, Try.ntmps18
  go_wp2_with (at_make; refine wpList_make_full _ rfl _ _ 48 rfl w.heap.size 50 i0 (.agg #[.int .i64 0, .int .i64 0, .int .i64 0, .int .i64 0]) 4 Try.underlying48 HI.out HZ.out HS.out _ _ _ _ nm rfl rfl rfl rfl (by rw [HB.out]; omega) (by unfold maxLen; omega) (Nat.le_refl _) ?_; intro w1 hown hgrow)
  go_loopw [19] (fun i wr => ∃ j : Nat, j ≤ nm ∧ i = .int .i64 j ∧ Below w.heap.size w wr ∧ Row4 wr w.heap.size nm j M) (fun i _ => nm - (intOf i).toNat)
  case atStart => exact ⟨0, Nat.zero_le _, rfl, (Below.refl _ _).grown hgrow (Nat.le_refl _) (by simp), made_row4 hown⟩
  case round =>
    obtain ⟨j, hj, rfl, hB, hR⟩ := hrel
    have HBw := hid hB
    have HR := hid hR
    have hz := hB.size
    have hgr : w.heap.size < wr.heap.size := by obtain ⟨arr, h1, _⟩ := hR.cells; exact (Array.getElem?_eq_some_iff.1 h1).1
    by_cases hlt : j < nm
    · obtain ⟨bm, om, rfl, hc⟩ : ∃ b off, am = some ⟨b, off, none⟩ ∧ ∀ i, i < M.length →
    wr.cell? ⟨b, off + i * 4, none⟩ = some (.int .i64 (M.getD i (0, 0, 0, 0)).1) ∧ wr.cell? ⟨b, off + i * 4 + 1, none⟩ = some (.int .i64 (M.getD i (0, 0, 0, 0)).2.1) ∧
    wr.cell? ⟨b, off + i * 4 + 2, none⟩ = some (.int .i64 (M.getD i (0, 0, 0, 0)).2.2.1) ∧ wr.cell? ⟨b, off + i * 4 + 3, none⟩ = some (.int .i64 (M.getD i (0, 0, 0, 0)).2.2.2) := by
        rcases HM.out.below hB with h | h
        · have h2 := hnm.out; rw [h] at h2; simp at h2; omega
        · exact h
      obtain ⟨d0, d1, d2, d3⟩ := hc j (by have := hnm.out; omega)
      obtain ⟨x0, x1, x2, x3, hx⟩ : ∃ x0 x1 x2 x3, M.getD j (0, 0, 0, 0) = (x0, x1, x2, x3) := ⟨_, _, _, _, rfl⟩
      rw [hx] at d0 d1 d2 d3
      have HSet := hid (hR.set hlt hx)
      obtain ⟨y0, g0⟩ := hR.there (j * 4) (by omega)
      obtain ⟨y1, g1⟩ := hR.there (j * 4 + 1) (by omega)
      obtain ⟨y2, g2⟩ := hR.there (j * 4 + 2) (by omega)
      obtain ⟨y3, g3⟩ := hR.there (j * 4 + 3) (by omega)
      have f0 := hR.free (j * 4)
      have f1 := hR.free (j * 4 + 1)
      have f2 := hR.free (j * 4 + 2)
      have f3 := hR.free (j * 4 + 3)
      have hlti : (j : Int) < (nm : Int) := by omega
      clear hc hR hB hown hgrow hx
      simp only at d0 d1 d2 d3
      go_wp2
      go_region
      all_goals go_wp2_with fail
      all_goals go_roundw
      all_goals first
        | (case rel => exact ⟨j + 1, by omega, by go_num, ((((HBw.out.setCell (Nat.le_refl _) _).setCell (Nat.le_refl _) _).setCell (Nat.le_refl _) _).setCell (Nat.le_refl _) _).drew, HSet.out⟩)
        | skip
      all_goals first
        | (case measure => simp [intOf]; omega)
        | skip
    · have hjn : j = nm := by omega
      subst hjn
      have HMr := hid (hR.mems hnm.out)
      clear hR hB hown hgrow
      go_wp2_with fail
      refine (HC.out (wr.alloc (.cells #[.slice none 0 0, .int .i64 0, .slice ao no co, .slice (some ⟨w.heap.size, 0, none⟩) j j, .slice none 0 0] 53)) wr.heap.size w.heap.size hz (Nat.le_refl _) (HBw.out.alloc hz _) ?c2 ?c3 (HMr.out.below ((Below.refl _ _).alloc (Nat.le_refl _) _))).mono ?_
      case c2 => exact cell_of_row _ wr.heap.size 2 _ 53 (0, 0) (heap_alloc_new wr _)
      case c3 => exact cell_of_row _ wr.heap.size 3 _ 53 (0, 0) (heap_alloc_new wr _)
      rintro e w' ⟨r, rfl, hP⟩
      have HP := hid hP
      clear hP
      go_wp2_with fail
      go_ret
      exact ⟨r, rfl, HP.out⟩

end Go.Proofs.Qxb6604022a
