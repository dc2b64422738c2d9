/-
  THE WALKS THAT ALL FOUR LAWS SHARE: at, skipSpace, the clone.
-/
import Derived.Test.Qxb6604007aProg
import Derived.Test.Qxb6604007aPlain
import Derived.WalkKit
import Derived.ProofKit
import Derived.Below
import Derived.WalkSpells
namespace Go.Proofs.Qxb6604007a
open Go.ChangeShapes Go.WideShapes Go.ChangeAt Go.RowKit
set_option linter.unusedVariables false

/-- A slice of bytes at address 'a' that reads as 'z'. -/
def Bytes (w : World) (a : Option Addr) (z : List Int) : Prop :=
  z = [] ∨ ∃ b off, a = some ⟨b, off, none⟩ ∧ ∀ k, k < z.length → w.cell? ⟨b, off + k, none⟩ = some (.int .u8 (z.getD k 0))

set_option maxHeartbeats 400000 in
theorem at_any (a : Option Addr) (z : List Int) (cap : Nat) (i : Int) (w : World) (hr : Bytes w a z) (hl : z.length ≤ maxLen) (h0 : 0 ≤ i) :
    Calls Try.prog 29 #[.slice a z.length cap, .int .i64 i] w fun e w' => e = .returned (.int .u8 (z.getD i.toNat 0)) ∧ w' = w := by
  obtain ⟨k, rfl⟩ : ∃ k : Nat, i = k := ⟨i.toNat, by omega⟩
  unfold maxLen at hl
  by_cases hk : k < z.length
  · rcases hr with rfl | ⟨b, off, rfl, hc⟩
    · simp at hk
    · have hck := hc k hk
      clear hc
      generalize hv : z.getD k 0 = c at hck
      have HV : Hid (z.getD k 0 = c) := hv
      clear hv
      go_enter Try.func29, Try.ntmps29
      go_wp2
      go_ret
      exact ⟨by rw [Int.toNat_natCast, HV.out]; rfl, rfl⟩
  · go_enter Try.func29, Try.ntmps29
    go_wp2
    go_ret
    have e : z.getD (k : Int).toNat 0 = 0 := Plain.getD_zero z _ (by simp; omega)
    rw [e]
    exact ⟨rfl, rfl⟩

theorem ws_yes (c : Int) (h : c = 32 ∨ c = 9 ∨ c = 10 ∨ c = 13) : Plain.ws c = true := by
  rcases h with rfl | rfl | rfl | rfl <;> rfl
theorem ws_no (c : Int) (h1 : c ≠ 32) (h2 : c ≠ 9) (h3 : c ≠ 10) (h4 : c ≠ 13) : Plain.ws c = false := by
  simp [Plain.ws, h1, h2, h3, h4]

set_option maxHeartbeats 1000000 in
theorem skip_any (a : Option Addr) (z : List Int) (cap : Nat) (i : Int) (w : World) (hr : Bytes w a z) (hl : z.length ≤ maxLen) (h0 : 0 ≤ i) :
    Calls Try.prog 33 #[.slice a z.length cap, .int .i64 i] w fun e w' => e = .returned (.int .i64 ((Plain.sk z i.toNat : Nat) : Int)) ∧ w' = w := by
  obtain ⟨k0, rfl⟩ : ∃ k : Nat, i = k := ⟨i.toNat, by omega⟩
  rw [Int.toNat_natCast]
  unfold maxLen at hl
  obtain ⟨n, hn⟩ : ∃ n, n = z.length := ⟨_, rfl⟩
  obtain ⟨r, hr0⟩ : ∃ r, r = Plain.sk z k0 := ⟨_, rfl⟩
  rw [← hn, ← hr0]
  rw [← hn] at hl
  have HN : Hid (n = z.length) := hn
  have HR : Hid (r = Plain.sk z k0) := hr0
  clear hn hr0
  go_enter Try.func33, Try.ntmps33
  go_wp2
  go_loop [1] (fun v => ∃ k : Nat, v = .int .i64 k ∧ Plain.sk z k = r) (fun v => n - (intOf v).toNat)
  case atStart => exact ⟨k0, rfl, HR.out.symm⟩
  case round =>
    obtain ⟨k, rfl, hk0⟩ := hrel
    have HK : Hid (Plain.sk z k = r) := hk0
    clear hk0
    by_cases hk : k < n
    · have hkz : k < z.length := by have := HN.out; omega
      rcases hr with rfl | ⟨b, off, rfl, hc⟩
      · simp at hkz
      · have hck := hc k hkz
        have HKZ : Hid (k < z.length) := hkz
        clear hc hkz
        generalize hv : z.getD k 0 = c at hck
        have HV : Hid (z.getD k 0 = c) := hv
        clear hv
        have go : ∀ c', z.getD k 0 = c' → Plain.ws c' = true → Plain.sk z (k + 1) = r := fun c' h1 h2 => by
          rw [← HK.out]; exact Plain.runE_step Plain.ws z k HKZ.out (by rw [h1]; exact h2)
        have GO : Hid (∀ c', z.getD k 0 = c' → Plain.ws c' = true → Plain.sk z (k + 1) = r) := go
        clear go
        by_cases h1 : c = 32
        · go_wp2
          go_round
          case rel => exact ⟨k + 1, by go_num, GO.out c HV.out (ws_yes c (by omega))⟩
          case measure => simp [intOf]; omega
        by_cases h2 : c = 9
        · go_wp2
          go_round
          case rel => exact ⟨k + 1, by go_num, GO.out c HV.out (ws_yes c (by omega))⟩
          case measure => simp [intOf]; omega
        by_cases h3 : c = 10
        · go_wp2
          go_round
          case rel => exact ⟨k + 1, by go_num, GO.out c HV.out (ws_yes c (by omega))⟩
          case measure => simp [intOf]; omega
        by_cases h4 : c = 13
        · go_wp2
          go_round
          case rel => exact ⟨k + 1, by go_num, GO.out c HV.out (ws_yes c (by omega))⟩
          case measure => simp [intOf]; omega
        go_wp2
        go_ret
        have e : r = k := by rw [← HK.out]; exact Plain.runE_no Plain.ws z k (by rw [HV.out]; exact ws_no c h1 h2 h3 h4)
        rw [e]
        exact ⟨rfl, rfl⟩
    · go_wp2
      go_ret
      have e : r = k := by rw [← HK.out]; exact Plain.runE_end Plain.ws z k (by have := HN.out; omega)
      rw [e]
      exact ⟨rfl, rfl⟩

end Go.Proofs.Qxb6604007a
