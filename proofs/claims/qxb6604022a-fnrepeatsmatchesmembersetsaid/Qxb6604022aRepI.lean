/-
  THE SCRIPT's STEP: ZZRepeats over whatever the map's cell holds.
-/
import Derived.Test.Qxb6604022aRepH
namespace Go.Proofs.Qxb6604022a
open Go.ChangeShapes Go.WideShapes Go.ChangeAt Go.RowKit
set_option linter.unusedVariables false

/-- the map's cell: it holds nil, and pn; or a map of which ps is said -/
def SeenG (w : World) (B0 SB : Nat) (pn : Prop) (ps : Nat → List (List Int) → Prop) : Prop :=
  ∃ r, SeenIs w SB r ∧ B0 ≤ SB ∧ ((r = none ∧ pn) ∨ ∃ B n A, r = some B ∧ B0 ≤ B ∧ MapIs w B n A ∧ ps n A)

theorem SeenG.grown {w w' : World} {B0 SB : Nat} {pn : Prop} {ps : Nat → List (List Int) → Prop} {row : Option Nat} (h : SeenG w B0 SB pn ps) (hg : w.grownBy w' row) (h1 : ∀ r, SeenIs w SB r → row ≠ some SB) (h2 : ∀ B n A, MapIs w B n A → row ≠ some B) : SeenG w' B0 SB pn ps := by
  obtain ⟨r, hs, hb, h⟩ := h
  refine ⟨r, hs.grown hg (h1 r hs), hb, ?_⟩
  rcases h with h | ⟨B, n, A, e, hB, hm, hp⟩
  · exact .inl h
  · exact .inr ⟨B, n, A, e, hB, hm.grown hg (h2 B n A hm), hp⟩
theorem SeenG.imp {w : World} {B0 SB : Nat} {pn pn' : Prop} {ps ps' : Nat → List (List Int) → Prop} (h : SeenG w B0 SB pn ps) (h1 : pn → pn') (h2 : ∀ n A, ps n A → ps' n A) : SeenG w B0 SB pn' ps' := by
  obtain ⟨r, hs, hb, h⟩ := h
  refine ⟨r, hs, hb, ?_⟩
  rcases h with ⟨e, h⟩ | ⟨B, n, A, e, hB, hm, hp⟩
  · exact .inl ⟨e, h1 h⟩
  · exact .inr ⟨B, n, A, e, hB, hm, h2 n A hp⟩
theorem SeenG.out {w w' : World} {B0 SB : Nat} {pn : Prop} {ps : Nat → List (List Int) → Prop} {v : Value} {xs : List Int} (h : SeenG w B0 SB pn ps) (ho : Own w v xs) (hg : w.grownBy w' v.ownBlock) : SeenG w' B0 SB pn ps :=
  h.grown hg (fun r hs => ho.ne_seen hs) (fun B n A hm => ho.ne_map hm)
theorem SeenG.ms {w w' : World} {B0 SB : Nat} {pn : Prop} {ps : Nat → List (List Int) → Prop} {v : Value} {M : List Mem} (h : SeenG w B0 SB pn ps) (ho : OwnM w v M) (hg : w.grownBy w' v.ownBlock) : SeenG w' B0 SB pn ps :=
  h.grown hg (fun r hs => ho.ne_seen hs) (fun B n A hm => ho.ne_map hm)
theorem SeenG.none {w w' : World} {B0 SB : Nat} {pn : Prop} {ps : Nat → List (List Int) → Prop} (h : SeenG w B0 SB pn ps) (hg : w.grownBy w' .none) : SeenG w' B0 SB pn ps :=
  h.grown hg (fun r hs e => nomatch e) (fun B n A hm e => nomatch e)

/-- the set of keys that is there when a round begins; when the map has been asked -/
def SetIs (D : List ByteArray) (i n : Nat) (A : List (List Int)) : Prop := n ≤ i ∧ ∀ x, x ∈ A ↔ x ∈ D.map strInts
def SetMid (D : List ByteArray) (s : ByteArray) (i n : Nat) (A : List (List Int)) : Prop := n ≤ i + 1 ∧ ∀ x, x ∈ A ↔ x ∈ D.map strInts ∨ x = strInts s

theorem SetMid.old {D : List ByteArray} {s : ByteArray} {i n : Nat} {A : List (List Int)} (h : SetMid D s i n A) (hs : s ∈ D) : SetIs D (i + 1) n A := by
  refine ⟨h.1, fun x => ?_⟩
  rw [h.2 x]
  constructor
  · rintro (h | rfl)
    · exact h
    · exact (mem_ints D s).2 hs
  · exact .inl
theorem SetMid.new {D : List ByteArray} {s : ByteArray} {i n : Nat} {A : List (List Int)} (h : SetMid D s i n A) : SetIs (D ++ [s]) (i + 1) n A := by
  refine ⟨h.1, fun x => ?_⟩
  rw [h.2 x, List.map_append, List.mem_append, List.map_cons, List.map_nil, List.mem_singleton]

theorem zzrep_seen (ao : Option Addr) (O : List Int) (no co : Nat) (am : Option Addr) (M : List Mem) (nm cm SB f k i B0 : Nat) (D : List ByteArray) (s : ByteArray) (w3 w : World)
    (hno : Hid (O.length = no)) (hnm : Hid (M.length = nm)) (hSt : St B0 w3 w (.slice ao no co) O (.slice am nm cm) M) (hby : Byt O) (hH : Holds O M f D) (hS : SeenG w B0 SB (D.length ≤ 16) (SetIs D i))
    (hk : k ≤ no) (hname : O.drop k = strInts s) (hnol : no ≤ 1073741824) (hnml : nm ≤ 1048575) (hil : i ≤ 1048575) (hDi : D.length ≤ i) (r : Bool) (hr : Hid (r = true ↔ s ∈ D)) :
    Calls Try.prog 18 #[.slice ao no co, .slice am nm cm, .int .i64 f, .int .i64 k, .pointer (some ⟨SB, 0, none⟩)] w fun e w' => e = .returned (.bool r) ∧ SeenG w' B0 SB (D.length < 16) (SetMid D s i) ∧ St B0 w3 w' (.slice ao no co) O (.slice am nm cm) M := by
  have hlen := hH.len
  have hL : nm - f = D.length := by have := hnm.out; omega
  have hkeys := hH.keys
  -- the slices as the callee wants them
  obtain ⟨ao', co', hv, hle, hbytes, hnil, hblk⟩ := hSt.own.shape
  obtain ⟨rfl, _, rfl⟩ : ao = ao' ∧ no = O.length ∧ co = co' := by simpa using hv
  have hOut : Out w ao co O := by
    cases ao with
    | none => obtain ⟨h1, h2⟩ := hnil rfl; exact .inl ⟨rfl, h1, h2⟩
    | some x =>
      obtain ⟨_, _, h3⟩ := hblk x rfl
      rw [h3]
      exact .inr ⟨x.block, 0, rfl, hle, by rw [← h3]; exact hbytes⟩
  have hcom : co ≤ 9223372036854775807 := by
    rcases hSt.own.2 with ⟨h, _⟩ | ⟨g, cap, cur, h, _, _, _, hm, _⟩
    · simp only [Value.slice.injEq] at h
      obtain ⟨_, _, h⟩ := h
      omega
    · simp only [Value.slice.injEq] at h
      obtain ⟨_, _, h⟩ := h
      unfold maxLen at hm; omega
  obtain ⟨am', cm', hvm, hMems⟩ := hSt.ownM.shape
  obtain ⟨rfl, _, rfl⟩ : am = am' ∧ nm = M.length ∧ cm = cm' := by simpa using hvm
  have hNb : Byt (strInts s) := strInts_byt s
  obtain ⟨r0, hs, hB0, hcase⟩ := hS
  have hmem : decide (O.drop k ∈ keysFrom O M f (nm - f)) = r := by
    rw [hL, hkeys, hname, Bool.eq_iff_iff, decide_eq_true_eq, mem_ints D s]
    exact hr.out.symm
  rcases hcase with ⟨rfl, hD⟩ | ⟨B, n, A, rfl, hBB, hm, hn, hA⟩
  · by_cases h16 : nm - f < 16
    · refine (zzrep_few ao O no co am M nm cm SB f k w hno hnm hOut hMems hby hH.within hs hk (by have := hnm.out; omega) h16 hcom hnol hnml r (hid hmem)).mono ?_
      rintro e w' ⟨rfl, h1, h2⟩
      refine ⟨rfl, ⟨none, h1, hB0, .inl ⟨rfl, by omega⟩⟩, hSt.grown (grown_of_below h2 none) (fun g hg => nomatch hg) (none_or fun g _ e => nomatch e) (none_or fun g _ e => nomatch e)⟩
    · refine (zzrep_many ao O no co am M nm cm SB f k w hno hnm hOut hMems hby hH.within hs (fun x hx e => hSt.own.ne_seen hs (by rw [(hblk x hx).1, e])) hk (by have := hnm.out; omega) (by omega) hcom hnol hnml r (hid hmem)).mono ?_
      rintro e w' ⟨rfl, B, hB, h1, h2, h3⟩
      refine ⟨rfl, ⟨some B, h1, hB0, .inr ⟨B, _, _, rfl, Nat.le_trans hSt.size hB, h2, ?_⟩⟩, hSt.grown h3 (fun g hg => by obtain rfl := Option.some.inj hg; exact hB0) (none_or fun g hg e => hSt.own.ne_seen hs (by rw [hg, e])) (none_or fun g hg e => hSt.ownM.ne_seen hs (by rw [hg, e]))⟩
      rw [hL, hkeys, hname]
      exact ⟨by omega, fun x => by rw [List.mem_append, List.mem_singleton]⟩
  · refine (zzrep_map ao O no co am M nm cm SB B n f k A w hno hnm hOut hMems hby (fun x hx => by obtain ⟨t, _, rfl⟩ := List.mem_map.1 ((hA x).1 hx); exact strInts_byt t) hs hm hk (by have := hnm.out; omega) hcom hnol hnml (by omega) r (hid ?_)).mono ?_
    · rw [hname, Bool.eq_iff_iff, decide_eq_true_eq, hA, mem_ints D s]
      exact hr.out.symm
    · rintro e w' ⟨rfl, h1, h2, h3⟩
      refine ⟨rfl, ⟨some B, h1, hB0, .inr ⟨B, _, _, rfl, hBB, h2, by omega, fun x => ?_⟩⟩, hSt.grown h3 (fun g hg => by obtain rfl := Option.some.inj hg; exact hBB) (none_or fun g hg e => hSt.own.ne_map hm (by rw [hg, e])) (none_or fun g hg e => hSt.ownM.ne_map hm (by rw [hg, e]))⟩
      rw [List.mem_append, hA x, List.mem_singleton, hname]

end Go.Proofs.Qxb6604022a
