/-
  THE MEMBER SET: what repeats leaves; how many keys differ.
-/
import Derived.Test.Qxb6604022aRepL
namespace Go.Proofs.Qxb6604022a
open Go.ChangeShapes Go.WideShapes Go.ChangeAt Go.RowKit
set_option linter.unusedVariables false

/-- the map's cell ahead of the call -/
def SeenPre (w : World) (B0 SB : Nat) (made : Bool) (L : Nat) (A : List (List Int)) : Prop :=
  (made = false ∧ SeenIs w SB none) ∨ (made = true ∧ ∃ B, SeenIs w SB (some B) ∧ B0 ≤ B ∧ MapIs w B L A)
/-- the map's cell behind it -/
def SeenPost (w : World) (B0 SB : Nat) (made : Bool) (L : Nat) (A : List (List Int)) : Prop :=
  (made = false ∧ L < 16 ∧ SeenIs w SB none) ∨ ((made = true ∨ 16 ≤ L) ∧ ∃ B n, SeenIs w SB (some B) ∧ B0 ≤ B ∧ MapIs w B n A)

theorem SeenPost.none {w w' : World} {B0 SB : Nat} {made : Bool} {L : Nat} {A : List (List Int)} (h : SeenPost w B0 SB made L A) (hg : w.grownBy w' .none) : SeenPost w' B0 SB made L A := by
  rcases h with ⟨h1, h2, h3⟩ | ⟨h1, B, n, h3, h4, h5⟩
  · exact .inl ⟨h1, h2, h3.grown hg (fun e => nomatch e)⟩
  · exact .inr ⟨h1, B, n, h3.grown hg (fun e => nomatch e), h4, h5.grown hg (fun e => nomatch e)⟩

theorem zzrep_member (ao : Option Addr) (O : List Int) (no co : Nat) (am : Option Addr) (M : List Mem) (nm cm SB f k B0 : Nat) (made : Bool) (w3 w : World)
    (hno : Hid (O.length = no)) (hnm : Hid (M.length = nm)) (hO : Out w ao co O) (hM : Mems w am M) (hby : Byt O) (hW : Within O M f) (hB : Below B0 w3 w) (hB0 : B0 ≤ w.heap.size) (hSB : B0 ≤ SB)
    (hoS : ∀ x, ao = some x → x.block ≠ SB) (hS : SeenPre w B0 SB made (nm - f) (keysFrom O M f (nm - f)))
    (hk : k ≤ no) (hf : f ≤ nm) (hco : co ≤ 9223372036854775807) (hnol : no ≤ 1073741824) (hnml : nm ≤ 1048575) (r : Bool) (hr : Hid (decide (O.drop k ∈ keysFrom O M f (nm - f)) = r)) :
    Calls Try.prog 18 #[.slice ao no co, .slice am nm cm, .int .i64 f, .int .i64 k, .pointer (some ⟨SB, 0, none⟩)] w fun e w' => e = .returned (.bool r) ∧ SeenPost w' B0 SB made (nm - f) (keysFrom O M f (nm - f) ++ [O.drop k]) ∧ Below B0 w3 w' ∧ B0 ≤ w'.heap.size := by
  rcases hS with ⟨hm, hs⟩ | ⟨hm, B, hs, hBB, hmap⟩
  · by_cases h16 : nm - f < 16
    · refine (zzrep_few ao O no co am M nm cm SB f k w hno hnm hO hM hby hW hs hk hf h16 hco hnol hnml r hr).mono ?_
      rintro e w' ⟨rfl, h1, h2⟩
      exact ⟨rfl, .inl ⟨hm, h16, h1⟩, hB.trans (h2.mono hB0), Nat.le_trans hB0 h2.size⟩
    · refine (zzrep_many ao O no co am M nm cm SB f k w hno hnm hO hM hby hW hs hoS hk hf (by omega) hco hnol hnml r hr).mono ?_
      rintro e w' ⟨rfl, B, hB', h1, h2, h3⟩
      exact ⟨rfl, .inr ⟨.inr (by omega), B, _, h1, Nat.le_trans hB0 hB', h2⟩, hB.grown h3 hB0 (fun g hg => by obtain rfl := Option.some.inj hg; exact hSB), Nat.le_trans hB0 h3.size⟩
  · refine (zzrep_map ao O no co am M nm cm SB B (nm - f) f k _ w hno hnm hO hM hby (keysFrom_byt O M f _ hby) hs hmap hk hf hco hnol hnml (by omega) r hr).mono ?_
    rintro e w' ⟨rfl, h1, h2, h3⟩
    exact ⟨rfl, .inr ⟨.inl hm, B, _, h1, hBB, h2⟩, hB.grown h3 hB0 (fun g hg => by obtain rfl := Option.some.inj hg; exact hBB), Nat.le_trans hB0 h3.size⟩

/-! ### how many keys differ -/
theorem snoc_ind {α : Type} (P : List α → Prop) (h0 : P []) (h1 : ∀ A x, P A → P (A ++ [x])) (A : List α) : P A := by
  rw [← List.reverse_reverse A]
  induction A.reverse with
  | nil => exact h0
  | cons x r ih => rw [List.reverse_cons]; exact h1 _ _ ih
def dl (A : List (List Int)) : List Lit := (A.map lit).foldl Maps.addKey []
theorem dl_snoc (A : List (List Int)) (x : List Int) : dl (A ++ [x]) = Maps.addKey (dl A) (lit x) := by simp [dl, List.foldl_append]
theorem lit_same (z : List Int) : (lit z).sameKey (lit z) = true := by simp [lit, Lit.sameKey]
theorem same_iff (x y : List Int) : (lit x).sameKey (lit y) = true ↔ lit x = lit y := by
  constructor
  · exact WideAt.sameKey_eq
  · intro h; rw [h]; exact lit_same y
/-- its entries are the keys of A -/
theorem dl_mem (A : List (List Int)) : ∀ l, l ∈ dl A ↔ ∃ x ∈ A, l = lit x := by
  refine snoc_ind (fun A => ∀ l, l ∈ dl A ↔ ∃ x ∈ A, l = lit x) ?_ ?_ A
  · intro l; simp [dl]
  · intro A x ih l
    rw [dl_snoc]
    unfold Maps.addKey
    by_cases h : (dl A).any (fun y => y.sameKey (lit x)) = true
    · rw [if_pos h, ih l]
      obtain ⟨y, hy, hs⟩ := List.any_eq_true.1 h
      obtain ⟨z, hz, rfl⟩ := (ih y).1 hy
      have e := (same_iff z x).1 hs
      constructor
      · rintro ⟨u, hu, rfl⟩; exact ⟨u, by simp [hu], rfl⟩
      · rintro ⟨u, hu, rfl⟩
        rcases List.mem_append.1 hu with hu | hu
        · exact ⟨u, hu, rfl⟩
        · obtain rfl := List.mem_singleton.1 hu; exact ⟨z, hz, e.symm⟩
    · rw [if_neg h, List.mem_append, List.mem_singleton, ih l]
      constructor
      · rintro (⟨u, hu, rfl⟩ | rfl)
        · exact ⟨u, by simp [hu], rfl⟩
        · exact ⟨x, by simp, rfl⟩
      · rintro ⟨u, hu, rfl⟩
        rcases List.mem_append.1 hu with hu | hu
        · exact .inl ⟨u, hu, rfl⟩
        · obtain rfl := List.mem_singleton.1 hu; exact .inr rfl
theorem dl_old (A : List (List Int)) (x : List Int) (h : x ∈ A) : (dl (A ++ [x])).length = (dl A).length := by
  rw [dl_snoc]
  unfold Maps.addKey
  have hb : (dl A).any (fun y => y.sameKey (lit x)) = true := List.any_eq_true.2 ⟨lit x, (dl_mem A _).2 ⟨x, h, rfl⟩, lit_same x⟩
  rw [if_pos hb]
theorem dl_new (A : List (List Int)) (x : List Int) (hA : ∀ y ∈ A, Byt y) (hx : Byt x) (h : ¬ x ∈ A) : (dl (A ++ [x])).length = (dl A).length + 1 := by
  rw [dl_snoc]
  unfold Maps.addKey
  rw [if_neg, List.length_append]
  · rfl
  · intro h2
    obtain ⟨y, hy, hs⟩ := List.any_eq_true.1 h2
    obtain ⟨z, hz, rfl⟩ := (dl_mem A y).1 hy
    exact h (by rw [← lit_inj z x (hA z hz) hx ((same_iff z x).1 hs)]; exact hz)
theorem dl_le (A : List (List Int)) : (dl A).length ≤ A.length := by
  refine snoc_ind (fun A => (dl A).length ≤ A.length) (by simp [dl]) ?_ A
  · intro A x ih
    show (dl (A ++ [x])).length ≤ (A ++ [x]).length
    rw [dl_snoc]
    unfold Maps.addKey
    split <;> simp <;> omega
theorem size_dl (A : List (List Int)) : Maps.size (Maps.setOf (H := Unit) (.agg []) (A.map lit)) = (dl A).length :=
  Maps.size_setOf _ _ (fun x hx => by obtain ⟨z, _, rfl⟩ := List.mem_map.1 hx; exact lit_key z)
theorem keysFrom_length (O : List Int) (M : List Mem) (f L : Nat) : (keysFrom O M f L).length = L := by simp [keysFrom]

end Go.Proofs.Qxb6604022a
