/-
  FROM WHAT THE SHELL TELLS OF A SLICE THAT CAME IN TO 'Bytes'; the bound on the lengths; the clone at a named length.
-/
import Derived.Test.Qxb6604007aWalkC
namespace Go.Proofs.Qxb6604007a
open Go.ChangeShapes Go.WideShapes Go.ChangeAt Go.RowKit
set_option linter.unusedVariables false

theorem row_in (a : Option Addr) (len cap : Nat) (zs : List Int) (w : World)
    (h : (a = none ∧ len = 0 ∧ cap = 0 ∧ zs = []) ∨ ∃ x, a = some x ∧ len ≤ cap ∧ cap ≤ maxLen ∧ zs.length = cap ∧ (∀ i, i < zs.length → w.cell? (x.add i) = some (.int .u8 (zs.getD i 0))) ∧ ∀ n ∈ zs, (Lit.int .u8 n).wf = true) :
    ∃ z : List Int, z.length = len ∧ Bytes w a z ∧ (a = none → z = []) := by
  rcases h with ⟨rfl, rfl, rfl, rfl⟩ | ⟨x, rfl, h1, h2, h3, h4, h5⟩
  · exact ⟨[], rfl, .inl rfl, fun _ => rfl⟩
  · refine ⟨zs.take len, by simp; omega, ?_, fun h => by cases h⟩
    by_cases h0 : len = 0
    · subst h0; exact .inl (by simp)
    · obtain ⟨b, off, spot⟩ := x
      have hspot : spot = none := by simpa [Addr.add] using World.cell?_spot (h4 0 (by omega))
      subst hspot
      refine .inr ⟨b, off, rfl, fun k hk => ?_⟩
      have hk' : k < len := by simp at hk; omega
      rw [← Addr.add_lit, h4 k (by omega)]
      simp [List.getD, hk']

theorem clone_is (a : Option Addr) (z : List Int) (n cap : Nat) (w : World) (hn : Hid (z.length = n)) (hr : Bytes w a z) (hl : n ≤ 1048576) (hnil : a = none → z = []) :
    Calls Try.prog 10 #[.slice a n cap] w fun e w' => ∃ a', e = .returned (.slice a' n n) ∧ Bytes w' a' z ∧ (a' = none → z = []) ∧ Below w.heap.size w w' := by
  have h := hn.out
  subst h
  exact clone_any a z cap w hr hl hnil

theorem zz22_yes (a : Option Addr) (len cap : Nat) (i c d : Int) (w : World) (h : len ≤ 1048576) :
    Calls Try.prog 22 #[.slice a len cap, .int .i64 i, .int .u8 c, .int .u8 d] w fun e w' => e = .returned (.bool true) ∧ w = w' := by
  go_enter Try.func22, Try.ntmps22
  go_wp2
  go_ret
  exact ⟨rfl, rfl⟩
theorem zz22_no (a : Option Addr) (len cap : Nat) (i c d : Int) (w : World) (h : 1048576 < len) :
    Calls Try.prog 22 #[.slice a len cap, .int .i64 i, .int .u8 c, .int .u8 d] w fun e w' => e = .returned (.bool false) ∧ w = w' := by
  go_enter Try.func22, Try.ntmps22
  go_wp2
  go_ret
  exact ⟨rfl, rfl⟩
theorem zz19_yes (a : Option Addr) (len cap : Nat) (s : Bool) (i c : Int) (w : World) (h : len ≤ 1048576) :
    Calls Try.prog 19 #[.slice a len cap, .bool s, .int .i64 i, .int .u8 c] w fun e w' => e = .returned (.bool true) ∧ w = w' := by
  go_enter Try.func19, Try.ntmps19
  go_wp2
  go_ret
  exact ⟨rfl, rfl⟩
theorem zz19_no (a : Option Addr) (len cap : Nat) (s : Bool) (i c : Int) (w : World) (h : 1048576 < len) :
    Calls Try.prog 19 #[.slice a len cap, .bool s, .int .i64 i, .int .u8 c] w fun e w' => e = .returned (.bool false) ∧ w = w' := by
  go_enter Try.func19, Try.ntmps19
  go_wp2
  go_ret
  exact ⟨rfl, rfl⟩
theorem zz9_yes (a : Option Addr) (len cap : Nat) (i : Int) (w : World) (h : len ≤ 1048576) :
    Calls Try.prog 9 #[.slice a len cap, .int .i64 i] w fun e w' => e = .returned (.bool true) ∧ w = w' := by
  go_enter Try.func9, Try.ntmps9
  go_wp2
  go_ret
  exact ⟨rfl, rfl⟩
theorem zz9_no (a : Option Addr) (len cap : Nat) (i : Int) (w : World) (h : 1048576 < len) :
    Calls Try.prog 9 #[.slice a len cap, .int .i64 i] w fun e w' => e = .returned (.bool false) ∧ w = w' := by
  go_enter Try.func9, Try.ntmps9
  go_wp2
  go_ret
  exact ⟨rfl, rfl⟩
theorem zz13_yes (a : Option Addr) (len cap : Nat) (i : Int) (w : World) (h : len ≤ 1048576) :
    Calls Try.prog 13 #[.slice a len cap, .int .i64 i] w fun e w' => e = .returned (.bool true) ∧ w = w' := by
  go_enter Try.func13, Try.ntmps13
  go_wp2
  go_ret
  exact ⟨rfl, rfl⟩
theorem zz13_no (a : Option Addr) (len cap : Nat) (i : Int) (w : World) (h : 1048576 < len) :
    Calls Try.prog 13 #[.slice a len cap, .int .i64 i] w fun e w' => e = .returned (.bool false) ∧ w = w' := by
  go_enter Try.func13, Try.ntmps13
  go_wp2
  go_ret
  exact ⟨rfl, rfl⟩

end Go.Proofs.Qxb6604007a
