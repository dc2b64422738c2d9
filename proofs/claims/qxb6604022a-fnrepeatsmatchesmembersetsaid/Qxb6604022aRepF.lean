/-
  ZZRepeats in its three cases.
-/
import Derived.Test.Qxb6604022aRepE
namespace Go.Proofs.Qxb6604022a
open Go.ChangeShapes Go.WideShapes Go.ChangeAt Go.RowKit
set_option linter.unusedVariables false

theorem lit_inj (x y : List Int) (hx : Byt x) (hy : Byt y) (h : lit x = lit y) : x = y := by
  unfold lit at h
  exact str_inj x y hx hy (by simpa using h)
theorem lit_key (z : List Int) : WideAt.IsKeyLit (lit z) := by
  unfold lit
  trivial
theorem has_keys (A : List (List Int)) (N : List Int) (hA : ∀ x ∈ A, Byt x) (hN : Byt N) : Maps.has (Maps.setOf (H := Unit) (.agg []) (A.map lit)) (lit N) = decide (N ∈ A) := by
  rw [Maps.has_setOf _ _ _ (fun x hx => by obtain ⟨z, _, rfl⟩ := List.mem_map.1 hx; exact lit_key z)]
  rw [Bool.eq_iff_iff]
  simp only [List.any_map, List.any_eq_true, decide_eq_true_eq, Function.comp]
  constructor
  · rintro ⟨x, hx, h⟩
    have : lit x = lit N := by
      by_cases e : lit x = lit N
      · exact e
      · rw [Maps.sameKey_ne e] at h; cases h
    rw [← lit_inj x N (hA x hx) hN this]; exact hx
  · intro h
    refine ⟨N, h, ?_⟩
    simp [lit, Lit.sameKey]

theorem mem_keysFrom (O : List Int) (M : List (Int × Int × Int × Int)) (f L : Nat) (N : List Int) : N ∈ keysFrom O M f L ↔ ∃ i, f ≤ i ∧ i < f + L ∧ keyAt O M i = N := by
  unfold keysFrom
  simp only [List.mem_map, List.mem_range]
  constructor
  · rintro ⟨j, hj, rfl⟩
    exact ⟨f + j, by omega, by omega, rfl⟩
  · rintro ⟨i, h1, h2, rfl⟩
    exact ⟨i - f, by omega, by rw [show f + (i - f) = i by omega]⟩
theorem keysFrom_byt (O : List Int) (M : List (Int × Int × Int × Int)) (f L : Nat) (h : Byt O) : ∀ x ∈ keysFrom O M f L, Byt x := by
  intro x hx
  obtain ⟨i, _, _, rfl⟩ := (mem_keysFrom O M f L x).1 hx
  exact part_byt _ _ _ h
theorem grown_pre {a b c : World} {row : Option Nat} (h : Below a.heap.size a b) (k : b.grownBy c row) : a.grownBy c row := grown_trans (grown_of_below h row) k

/-- no map, few members -/
theorem zzrep_few (ao : Option Addr) (O : List Int) (no co : Nat) (am : Option Addr) (M : List (Int × Int × Int × Int)) (nm cm SB f k : Nat) (w : World)
    (hno : Hid (O.length = no)) (hnm : Hid (M.length = nm)) (hO : Out w ao co O) (hM : Mems w am M) (hby : Byt O) (hW : Within O M f) (hS : SeenIs w SB none)
    (hk : k ≤ no) (hf : f ≤ nm) (h16 : nm - f < 16) (hco : co ≤ 9223372036854775807) (hnol : no ≤ 1073741824) (hnml : nm ≤ 1048575) (r : Bool)
    (hr : Hid (decide (O.drop k ∈ keysFrom O M f (nm - f)) = r)) :
    Calls Try.prog 18 #[.slice ao no co, .slice am nm cm, .int .i64 f, .int .i64 k, .pointer (some ⟨SB, 0, none⟩)] w fun e w' => e = .returned (.bool r) ∧ SeenIs w' SB none ∧ Below w.heap.size w w' := by
  refine (zzrep_any ao no co am M nm cm SB f k w (fun r' w' => r' = r ∧ SeenIs w' SB none ∧ Below w.heap.size w w') hnm hM hnml ?_).mono ?_
  · intro wq PB g hPB hg hB c2 c3 hMq
    have hSq : SeenIs wq SB none := hS.grown (grown_of_below hB none) (by simp)
    refine (repeats_few ao O no co (some ⟨g, 0, none⟩) M nm PB SB f k wq hno hnm (hO.below hB) hMq hby hW c2 c3 (cell_of_one' hSq) hk hf h16 hco hnol (by omega) r ?_).mono ?_
    · rw [← hr.out]
      refine hid ?_
      rw [decide_eq_true_eq, mem_keysFrom]
      constructor
      · rintro ⟨i, h1, h2, h3⟩
        exact ⟨i, h1, by omega, h3⟩
      · rintro ⟨i, h1, h2, h3⟩
        exact ⟨i, h1, by omega, h3⟩
    · rintro e w' ⟨rfl, hb⟩
      exact ⟨r, rfl, rfl, hSq.grown (grown_of_below hb none) (by simp), hB.trans (hb.mono hB.size)⟩
  · rintro e w' ⟨r', rfl, rfl, h⟩
    exact ⟨rfl, h⟩

/-- no map, many members: it is made -/
theorem zzrep_many (ao : Option Addr) (O : List Int) (no co : Nat) (am : Option Addr) (M : List (Int × Int × Int × Int)) (nm cm SB f k : Nat) (w : World)
    (hno : Hid (O.length = no)) (hnm : Hid (M.length = nm)) (hO : Out w ao co O) (hM : Mems w am M) (hby : Byt O) (hW : Within O M f) (hS : SeenIs w SB none) (hoS : ∀ x, ao = some x → x.block ≠ SB)
    (hk : k ≤ no) (hf : f ≤ nm) (h16 : 16 ≤ nm - f) (hco : co ≤ 9223372036854775807) (hnol : no ≤ 1073741824) (hnml : nm ≤ 1048575) (r : Bool)
    (hr : Hid (decide (O.drop k ∈ keysFrom O M f (nm - f)) = r)) :
    Calls Try.prog 18 #[.slice ao no co, .slice am nm cm, .int .i64 f, .int .i64 k, .pointer (some ⟨SB, 0, none⟩)] w fun e w' => e = .returned (.bool r) ∧ ∃ B, w.heap.size ≤ B ∧ SeenIs w' SB (some B) ∧ MapIs w' B (nm - f + 1) (keysFrom O M f (nm - f) ++ [O.drop k]) ∧ w.grownBy w' (some SB) := by
  refine (zzrep_any ao no co am M nm cm SB f k w (fun r' w' => r' = r ∧ ∃ B, w.heap.size ≤ B ∧ SeenIs w' SB (some B) ∧ MapIs w' B (nm - f + 1) (keysFrom O M f (nm - f) ++ [O.drop k]) ∧ w.grownBy w' (some SB)) hnm hM hnml ?_).mono ?_
  · intro wq PB g hPB hg hB c2 c3 hMq
    have hlt := hS.lt
    have hSq : SeenIs wq SB none := hS.grown (grown_of_below hB none) (by simp)
    refine (repeats_many ao O no co (some ⟨g, 0, none⟩) M nm PB SB f k wq hno hnm (hO.below hB) hMq hby hW c2 c3 hSq (by omega) hoS (fun x hx => by obtain rfl := Option.some.inj hx; show g ≠ SB; omega) hk hf h16 hco hnol (by omega) r ?_).mono ?_
    · rw [has_keys _ _ (keysFrom_byt O M f _ hby) (drop_byt O k hby)]
      exact hr
    · rintro e w' ⟨rfl, h1, h2, h3⟩
      exact ⟨r, rfl, rfl, wq.heap.size, hB.size, h1, h2, grown_pre hB h3⟩
  · rintro e w' ⟨r', rfl, rfl, h⟩
    exact ⟨rfl, h⟩

/-- the map is there -/
theorem zzrep_map (ao : Option Addr) (O : List Int) (no co : Nat) (am : Option Addr) (M : List (Int × Int × Int × Int)) (nm cm SB B n f k : Nat) (A : List (List Int)) (w : World)
    (hno : Hid (O.length = no)) (hnm : Hid (M.length = nm)) (hO : Out w ao co O) (hM : Mems w am M) (hby : Byt O) (hAb : ∀ x ∈ A, Byt x) (hS : SeenIs w SB (some B)) (hA : MapIs w B n A)
    (hk : k ≤ no) (hf : f ≤ nm) (hco : co ≤ 9223372036854775807) (hnol : no ≤ 1073741824) (hnml : nm ≤ 1048575) (hn : n ≤ 1048576) (r : Bool)
    (hr : Hid (decide (O.drop k ∈ A) = r)) :
    Calls Try.prog 18 #[.slice ao no co, .slice am nm cm, .int .i64 f, .int .i64 k, .pointer (some ⟨SB, 0, none⟩)] w fun e w' => e = .returned (.bool r) ∧ SeenIs w' SB (some B) ∧ MapIs w' B (n + 1) (A ++ [O.drop k]) ∧ w.grownBy w' (some B) := by
  have hBS : B ≠ SB := by
    rintro rfl
    obtain ⟨es, clock, h1, _⟩ := hA
    unfold SeenIs at hS
    rw [h1] at hS
    simp at hS
  refine (zzrep_any ao no co am M nm cm SB f k w (fun r' w' => r' = r ∧ SeenIs w' SB (some B) ∧ MapIs w' B (n + 1) (A ++ [O.drop k]) ∧ w.grownBy w' (some B)) hnm hM hnml ?_).mono ?_
  · intro wq PB g hPB hg hB c2 c3 hMq
    have hSq : SeenIs wq SB (some B) := hS.grown (grown_of_below hB none) (by simp)
    refine (repeats_map ao O no co (some ⟨g, 0, none⟩) nm PB SB B f k n A wq hno (hO.below hB) (hA.below hB) ⟨(fun h => nomatch h), (fun x hx => by obtain rfl := Option.some.inj hx; rfl)⟩ c2 c3 (cell_of_one' hSq) hk hf hco hnol (by omega) hn r ?_).mono ?_
    · rw [has_keys _ _ hAb (drop_byt O k hby)]
      exact hr
    · rintro e w' ⟨rfl, h2, h3⟩
      exact ⟨r, rfl, rfl, hSq.grown h3 (by simp [hBS]), h2, grown_pre hB h3⟩
  · rintro e w' ⟨r', rfl, rfl, h⟩
    exact ⟨rfl, h⟩

end Go.Proofs.Qxb6604022a
