/-
  THE WALKER's STEP.
-/
import Derived.Test.Qxb6604007aWalkB
namespace Go.Proofs.Qxb6604007a
open Go.ChangeShapes Go.WideShapes Go.ChangeAt Go.RowKit
set_option linter.unusedVariables false

theorem Bytes.below {w w' : World} {a : Option Addr} {z : List Int} (h : Bytes w a z) (hb : Below w.heap.size w w') : Bytes w' a z := by
  rcases h with h | ⟨b, off, ha, hc⟩
  · exact .inl h
  · refine .inr ⟨b, off, ha, fun k hk => ?_⟩
    have h1 := hc k hk
    have hlt : b < w.heap.size := World.block_lt_of_cell? w ⟨b, off + k, none⟩ h1
    rw [hb.cell (p := ⟨b, off + k, none⟩) hlt]
    exact h1

theorem Bytes.alloc {w : World} {a : Option Addr} {z : List Int} (h : Bytes w a z) (o : Obj) : Bytes (w.alloc o) a z :=
  h.below ((Below.refl _ _).alloc (Nat.le_refl _) o)

theorem at_is (a : Option Addr) (z : List Int) (cap n : Nat) (i : Int) (w : World) (c : Int) (hn : Hid (z.length = n)) (hr : Bytes w a z) (hl : n ≤ 1048576) (h0 : 0 ≤ i) (hc : Hid (z.getD i.toNat 0 = c)) :
    Calls Try.prog 29 #[.slice a n cap, .int .i64 i] w fun e w' => e = .returned (.int .u8 c) ∧ w' = w := by
  have h1 := hn.out
  have h2 := hc.out
  subst h1 h2
  exact at_any a z cap i w hr (by unfold maxLen; omega) h0

theorem skip_is (a : Option Addr) (z : List Int) (cap n : Nat) (i : Int) (w : World) (r : Nat) (hn : Hid (z.length = n)) (hr : Bytes w a z) (hl : n ≤ 1048576) (h0 : 0 ≤ i) (hc : Hid (Plain.sk z i.toNat = r)) :
    Calls Try.prog 33 #[.slice a n cap, .int .i64 i] w fun e w' => e = .returned (.int .i64 (r : Int)) ∧ w' = w := by
  have h1 := hn.out
  have h2 := hc.out
  subst h1 h2
  exact skip_any a z cap i w hr (by unfold maxLen; omega) h0

theorem nxt_of (z : List Int) (strict : Bool) (i : Nat) (c : Int) (j k : Nat) (cj ck : Int) (hj : Plain.sk z i = j) (hcj : z.getD j 0 = cj) (hk : Plain.sk z (j + 1) = k) (hck : z.getD k 0 = ck) :
    Plain.nxt z strict i c = if cj = 44 then (if strict = true ∧ ck = c then -1 else (k : Int)) else if strict = true ∧ cj ≠ c then -1 else (j : Int) := by
  subst hj; subst hcj; subst hk; subst hck; rfl

theorem hid {p : Prop} (h : p) : Hid p := h

set_option maxHeartbeats 1000000 in
theorem next_any (a : Option Addr) (z : List Int) (cap n : Nat) (strict : Bool) (i c : Int) (w : World) (hn : Hid (z.length = n)) (hr : Bytes w a z) (hl : n ≤ 1048576) (h0 : 0 ≤ i) :
    Calls Try.prog 27 #[.agg #[.slice a n cap, .bool strict], .int .i64 i, .int .u8 c] w fun e w' => e = .returned (.int .i64 (Plain.nxt z strict i.toNat c)) ∧ Below w.heap.size w w' := by
  obtain ⟨j, hj⟩ : ∃ j, Plain.sk z i.toNat = j := ⟨_, rfl⟩
  obtain ⟨cj, hcj⟩ : ∃ x, z.getD j 0 = x := ⟨_, rfl⟩
  obtain ⟨k, hk⟩ : ∃ j', Plain.sk z (j + 1) = j' := ⟨_, rfl⟩
  obtain ⟨ck, hck⟩ : ∃ x, z.getD k 0 = x := ⟨_, rfl⟩
  have HF := hid (nxt_of z strict i.toNat c j k cj ck hj hcj hk hck)
  have hjn : cj = 44 → j < n := fun h => by rw [← hn.out]; exact Plain.lt_of_ne z j (by omega)
  have HJ := hid hj
  have HCJ : Hid (z.getD (j : Int).toNat 0 = cj) := by rw [Int.toNat_natCast]; exact hid hcj
  have HK : Hid (Plain.sk z ((j : Int) + 1).toNat = k) := by rw [show ((j : Int) + 1).toNat = j + 1 by omega]; exact hid hk
  have HCK : Hid (z.getD (k : Int).toNat 0 = ck) := by rw [Int.toNat_natCast]; exact hid hck
  clear hj hcj hk hck
  have HB := hid (fun o => hr.alloc (w := w) o)
  clear hr
  by_cases h44 : cj = 44
  · have hjn' := hjn h44
    clear hjn
    go_enter Try.func27, Try.ntmps27
    go_wp2_with fail
    refine (skip_is a z cap n i _ j hn (HB.out _) hl h0 HJ).mono ?_
    rintro e w' ⟨rfl, rfl⟩
    go_wp2_with fail
    refine (at_is a z cap n j _ cj hn (HB.out _) hl (by omega) HCJ).mono ?_
    rintro e w' ⟨rfl, rfl⟩
    go_wp2_with fail
    refine (skip_is a z cap n _ _ k hn (HB.out _) hl (by omega) HK).mono ?_
    rintro e w' ⟨rfl, rfl⟩
    cases strict with
    | false =>
      go_wp2_with fail
      go_ret
      exact ⟨by rw [HF.out, if_pos h44, if_neg (by simp)]; rfl, (Below.refl _ _).alloc (Nat.le_refl _) _⟩
    | true =>
      by_cases hc : ck = c
      · go_wp2_with fail
        refine (at_is a z cap n k _ ck hn (HB.out _) hl (by omega) HCK).mono ?_
        rintro e w' ⟨rfl, rfl⟩
        go_wp2_with fail
        go_ret
        exact ⟨by rw [HF.out, if_pos h44, if_pos ⟨by simp, hc⟩]; rfl, (Below.refl _ _).alloc (Nat.le_refl _) _⟩
      · go_wp2_with fail
        refine (at_is a z cap n k _ ck hn (HB.out _) hl (by omega) HCK).mono ?_
        rintro e w' ⟨rfl, rfl⟩
        go_wp2_with fail
        go_ret
        exact ⟨by rw [HF.out, if_pos h44, if_neg (by simp [hc])]; rfl, (Below.refl _ _).alloc (Nat.le_refl _) _⟩
  · clear hjn
    go_enter Try.func27, Try.ntmps27
    go_wp2_with fail
    refine (skip_is a z cap n i _ j hn (HB.out _) hl h0 HJ).mono ?_
    rintro e w' ⟨rfl, rfl⟩
    go_wp2_with fail
    refine (at_is a z cap n j _ cj hn (HB.out _) hl (by omega) HCJ).mono ?_
    rintro e w' ⟨rfl, rfl⟩
    cases strict with
    | false =>
      go_wp2_with fail
      go_ret
      exact ⟨by rw [HF.out, if_neg h44, if_neg (by simp)]; rfl, (Below.refl _ _).alloc (Nat.le_refl _) _⟩
    | true =>
      by_cases hc : cj = c
      · go_wp2_with fail
        refine (at_is a z cap n j _ cj hn (HB.out _) hl (by omega) HCJ).mono ?_
        rintro e w' ⟨rfl, rfl⟩
        go_wp2_with fail
        go_ret
        exact ⟨by rw [HF.out, if_neg h44, if_neg (by simp [hc])]; rfl, (Below.refl _ _).alloc (Nat.le_refl _) _⟩
      · go_wp2_with fail
        refine (at_is a z cap n j _ cj hn (HB.out _) hl (by omega) HCJ).mono ?_
        rintro e w' ⟨rfl, rfl⟩
        go_wp2_with fail
        go_ret
        exact ⟨by rw [HF.out, if_neg h44, if_pos ⟨by simp, hc⟩]; rfl, (Below.refl _ _).alloc (Nat.le_refl _) _⟩

theorem zznext_any (a : Option Addr) (z : List Int) (cap n : Nat) (strict : Bool) (i c : Int) (w : World) (hn : Hid (z.length = n)) (hr : Bytes w a z) (hl : n ≤ 1048576) (h0 : 0 ≤ i) :
    Calls Try.prog 20 #[.slice a n cap, .bool strict, .int .i64 i, .int .u8 c] w fun e w' => e = .returned (.int .i64 (Plain.nxt z strict i.toNat c)) ∧ Below w.heap.size w w' := by
  have HR := hid hr
  clear hr
  go_enter Try.func20, Try.ntmps20
  go_wp2_with fail
  refine (next_any a z cap n strict i c _ hn HR.out hl h0).mono ?_
  rintro e w' ⟨rfl, hb⟩
  go_wp2_with fail
  go_ret
  exact ⟨rfl, hb⟩

end Go.Proofs.Qxb6604007a
