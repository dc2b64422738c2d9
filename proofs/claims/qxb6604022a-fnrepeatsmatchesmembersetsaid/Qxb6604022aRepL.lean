/-
  THE MEMBER SET's DOMAIN.
-/
import Derived.Test.Qxb6604022aRepK
import Derived.Outline
namespace Go.Proofs.Qxb6604022a
open Go.ChangeShapes Go.WideShapes Go.ChangeAt Go.RowKit
set_option linter.unusedVariables false

theorem Mems.cellsAt {w : World} {a : Option Addr} {M : List Mem} (h : Mems w a M) (hM : 0 < M.length) : ∃ b off, a = some ⟨b, off, none⟩ ∧ b < w.heap.size ∧ ∀ i, i < M.length →
    w.cell? ⟨b, off + i * 4, none⟩ = some (.int .i64 (M.getD i (0, 0, 0, 0)).1) ∧ w.cell? ⟨b, off + i * 4 + 1, none⟩ = some (.int .i64 (M.getD i (0, 0, 0, 0)).2.1) ∧
    w.cell? ⟨b, off + i * 4 + 2, none⟩ = some (.int .i64 (M.getD i (0, 0, 0, 0)).2.2.1) ∧ w.cell? ⟨b, off + i * 4 + 3, none⟩ = some (.int .i64 (M.getD i (0, 0, 0, 0)).2.2.2) := by
  rcases h with rfl | ⟨b, off, ha, hc⟩
  · simp at hM
  · exact ⟨b, off, ha, World.block_lt_of_cell? w _ (hc 0 hM).1, hc⟩
theorem Mems.drewN {w : World} {a : Option Addr} {M : List Mem} (h : Mems w a M) (n : Nat) : Mems (w.drewN n) a M := h.below (below_drewN (Below.refl _ _) n)

/-- what the domain's test tells -/
def InDomain (O : List Int) (M : List Mem) (no nm : Nat) (f k : Int) (w : World) (e : Ending) (w' : World) : Prop :=
  ∃ b, e = .returned (.bool b) ∧ (∃ n, w' = w.drewN n) ∧ (b = true → 0 ≤ f ∧ f ≤ nm ∧ 0 ≤ k ∧ k ≤ no ∧ Within O M f.toNat)

set_option maxRecDepth 100000 in
set_option maxHeartbeats 4000000 in
theorem domain_any (ao : Option Addr) (O : List Int) (no co : Nat) (am : Option Addr) (M : List Mem) (nm cm : Nat) (f k : Int) (w : World) (hno : Hid (O.length = no)) (hnm : Hid (M.length = nm)) (hM : Mems w am M) (hnol : no ≤ 1048576) (hnml : nm ≤ 1048576) :
    Calls Try.prog 16 #[.slice ao no co, .slice am nm cm, .int .i64 f, .int .i64 k] w fun e w' => InDomain O M no nm f k w e w' := by
  have HM := hid hM
  clear hM
  by_cases h1 : f < 0
  · go_enter Try.func16, Try.ntmps16
    go_wp2
    go_ret
    exact ⟨false, rfl, ⟨0, rfl⟩, by simp⟩
  by_cases h2 : (nm : Int) < f
  · go_enter Try.func16, Try.ntmps16
    go_wp2
    go_ret
    exact ⟨false, rfl, ⟨0, rfl⟩, by simp⟩
  by_cases h3 : k < 0
  · have hb : (decide (f < 0) || decide ((nm : Int) < f)) = false := by simp; omega
    go_enter Try.func16, Try.ntmps16
    go_wp2
    go_ret
    exact ⟨false, rfl, ⟨0, rfl⟩, by simp⟩
  by_cases h4 : (no : Int) < k
  · have hb : (decide (f < 0) || decide ((nm : Int) < f)) = false := by simp; omega
    have hb2 : (decide (f < 0) || decide ((nm : Int) < f) || decide (k < 0)) = false := by simp; omega
    go_enter Try.func16, Try.ntmps16
    go_wp2
    go_ret
    exact ⟨false, rfl, ⟨0, rfl⟩, by simp⟩
  obtain ⟨f, rfl⟩ : ∃ n : Nat, f = n := ⟨f.toNat, by omega⟩
  have hfn : f ≤ nm := by omega
  have hk0 : 0 ≤ k := by omega
  have hkn : k ≤ no := by omega
  go_enter Try.func16, Try.ntmps16
  go_wp2
  go_loopw [9] (fun v wr => ∃ j nd : Nat, f ≤ j ∧ j ≤ nm ∧ v = .int .i64 j ∧ wr = w.drewN nd ∧ ∀ i, f ≤ i → i < j → 0 ≤ (M.getD i (0, 0, 0, 0)).2.1 ∧ (M.getD i (0, 0, 0, 0)).2.1 ≤ (M.getD i (0, 0, 0, 0)).2.2.1 ∧ (M.getD i (0, 0, 0, 0)).2.2.1 ≤ (O.length : Int)) (fun v _ => nm - (intOf v).toNat)
  case atStart => exact ⟨f, 0, Nat.le_refl _, hfn, rfl, rfl, fun i a b => absurd b (by omega)⟩
  case round =>
    obtain ⟨j, nd, hfj, hj, rfl, hwr, hok⟩ := hrel
    have HWR := hid hwr
    have HOK := hid hok
    have HMr : Hid (Mems wr am M) := by rw [hwr]; exact HM.out.drewN nd
    clear hwr hok
    by_cases hlt : j < nm
    · obtain ⟨b, off, rfl, hbl, hc⟩ := HMr.out.cellsAt (by have := hnm.out; omega)
      obtain ⟨d0, d1, d2, d3⟩ := hc j (by have := hnm.out; omega)
      have HX1 : Hid ((M.getD j (0, 0, 0, 0)).2.1 = (M.getD j (0, 0, 0, 0)).2.1) := rfl
      obtain ⟨x1, hx1⟩ : ∃ x, (M.getD j (0, 0, 0, 0)).2.1 = x := ⟨_, rfl⟩
      obtain ⟨x2, hx2⟩ : ∃ x, (M.getD j (0, 0, 0, 0)).2.2.1 = x := ⟨_, rfl⟩
      rw [hx1] at d1
      rw [hx2] at d2
      have HX1 := hid hx1
      have HX2 := hid hx2
      have hlti : (j : Int) < (nm : Int) := by omega
      clear hc d0 d3 hx1 hx2
      by_cases g1 : x1 < 0
      · have q1 : decide (x1 < 0) = true := by simpa using g1
        go_wp2
        go_quiet (fail)
        go_wp2
        go_ret
        exact ⟨false, rfl, ⟨nd + _, by rw [HWR.out, World.drewN_drewN]⟩, by simp⟩
      have q1 : decide (x1 < 0) = false := by simpa using g1
      by_cases g2 : x2 < x1
      · have q2 : (decide (x2 < x1)) = true := by simpa using g2
        go_wp2
        go_quiet (fail)
        go_wp2
        go_ret
        exact ⟨false, rfl, ⟨nd + _, by rw [HWR.out, World.drewN_drewN]⟩, by simp⟩
      have q2 : decide (x2 < x1) = false := by simpa using g2
      by_cases g3 : (no : Int) < x2
      · have q3 : (decide ((no : Int) < x2)) = true := by simpa using g3
        go_wp2
        go_quiet (fail)
        go_wp2
        go_ret
        exact ⟨false, rfl, ⟨nd + _, by rw [HWR.out, World.drewN_drewN]⟩, by simp⟩
      · have q3 : decide ((no : Int) < x2) = false := by simpa using g3
        have HOK2 : Hid (∀ i, f ≤ i → i < j + 1 → 0 ≤ (M.getD i (0, 0, 0, 0)).2.1 ∧ (M.getD i (0, 0, 0, 0)).2.1 ≤ (M.getD i (0, 0, 0, 0)).2.2.1 ∧ (M.getD i (0, 0, 0, 0)).2.2.1 ≤ (O.length : Int)) := fun i a b => by
          by_cases hij : i = j
          · subst hij; rw [HX1.out, HX2.out, hno.out]; omega
          · exact HOK.out i a (by omega)
        go_wp2
        go_quiet (fail)
        go_wp2
        go_roundw
        case rel => exact ⟨j + 1, nd + _, by omega, by omega, by go_num, by rw [HWR.out, World.drewN_drewN], HOK2.out⟩
        case measure => simp [intOf]; omega
    · have HW : Hid (Within O M (f : Int).toNat) := by
        rw [Int.toNat_natCast]
        exact fun i a b => HOK.out i a (by have := hnm.out; omega)
      go_wp2
      go_ret
      exact ⟨true, rfl, ⟨nd, HWR.out⟩, fun _ => ⟨by omega, by omega, hk0, hkn, HW.out⟩⟩

set_option maxRecDepth 100000 in
set_option maxHeartbeats 2000000 in
theorem keybytes_any (ao : Option Addr) (O : List Int) (no co : Nat) (am : Option Addr) (M : List Mem) (nm cm f k : Nat) (w : World) (hno : Hid (O.length = no)) (hnm : Hid (M.length = nm)) (hM : Mems w am M) (hnol : no ≤ 1048576) (hnml : nm ≤ 1048576) (hW : Within O M f) (hk : k ≤ no) :
    Calls Try.prog 17 #[.slice ao no co, .slice am nm cm, .int .i64 f, .int .i64 k] w fun e w' => ∃ r : Int, e = .returned (.int .i64 r) ∧ ∃ n, w' = w.drewN n := by
  have HM := hid hM
  have HW := hid hW
  clear hM hW
  go_enter Try.func17, Try.ntmps17
  go_wp2
  go_loopw [9, 10] (fun v i wr => ∃ j nd z : Nat, f ≤ j ∧ v = .int .i64 z ∧ z ≤ 1048576 ∧ i = .int .i64 j ∧ wr = w.drewN nd) (fun _ i _ => nm - (intOf i).toNat)
  case atStart => exact ⟨f, 0, no - k, Nat.le_refl _, by go_num, by omega, rfl, rfl⟩
  case round =>
    obtain ⟨j, nd, z, hfj, rfl, hz, rfl, hwr⟩ := hrel
    have HWR := hid hwr
    have HMr : Hid (Mems wr am M) := by rw [hwr]; exact HM.out.drewN nd
    clear hwr
    by_cases hlt : j < nm
    · obtain ⟨b, off, rfl, hbl, hc⟩ := HMr.out.cellsAt (by have := hnm.out; omega)
      obtain ⟨d0, d1, d2, d3⟩ := hc j (by have := hnm.out; omega)
      obtain ⟨e1, e2, e3, e4⟩ := HW.out.nat j hfj (by have := hnm.out; omega)
      rw [e1] at d1
      rw [e2] at d2
      generalize mk M j = kj at *
      generalize mv M j = vj at *
      have e4' : vj ≤ no := by have := hno.out; omega
      have hlti : (j : Int) < (nm : Int) := by omega
      clear hc d0 d3 e1 e2 e4
      by_cases g : 1048576 < z + (vj - kj)
      · go_wp2
        go_quiet (fail)
        go_wp2
        go_ret
        exact ⟨_, rfl, nd + _, by rw [HWR.out, World.drewN_drewN]⟩
      · go_wp2
        go_quiet (fail)
        go_wp2
        go_roundw
        case rel => exact ⟨j + 1, nd + _, z + (vj - kj), by omega, by go_num, by omega, by go_num, by rw [HWR.out, World.drewN_drewN]⟩
        case measure => simp [intOf]; omega
    · go_wp2
      go_ret
      exact ⟨_, rfl, nd, HWR.out⟩

end Go.Proofs.Qxb6604022a
