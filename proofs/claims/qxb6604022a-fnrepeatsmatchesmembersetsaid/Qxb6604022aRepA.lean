/-
  STRINGS OUT OF BYTES; bytes.Equal; a slice of members.
-/
import Derived.Test.Qxb6604022aGrow
import Derived.Laws.BytesArg
import Derived.Deep.QuietTactic
import Derived.BigQuiet
import Derived.WalkSmall
import Derived.Maps.OwnSet
namespace Go.Proofs.Qxb6604022a
open Go.ChangeShapes Go.WideShapes Go.ChangeAt Go.RowKit
set_option linter.unusedVariables false

/-- every number is a byte -/
def Byt (z : List Int) : Prop := ∀ c ∈ z, 0 ≤ c ∧ c ≤ 255

theorem str_inj (x y : List Int) (hx : Byt x) (hy : Byt y) (h : (strOfNums x).data.toList = (strOfNums y).data.toList) : x = y := by
  rw [strOfNums_data, strOfNums_data] at h
  induction x generalizing y with
  | nil => cases y with
    | nil => rfl
    | cons b y => simp at h
  | cons a x ih => cases y with
    | nil => simp at h
    | cons b y =>
      simp only [List.map_cons, List.cons.injEq] at h
      have ha := hx a (by simp)
      have hb := hy b (by simp)
      have e : a = b := by
        have h1 := congrArg UInt8.toNat h.1
        simp at h1
        omega
      rw [e, ih y (fun c hc => hx c (by simp [hc])) (fun c hc => hy c (by simp [hc])) h.2]

theorem str_eq (x y : List Int) (hx : Byt x) (hy : Byt y) : ((strOfNums x).toList == (strOfNums y).toList) = decide (x = y) := by
  by_cases h : x = y
  · subst h; simp
  · rw [decide_eq_false h]
    have : ¬ (strOfNums x).data.toList = (strOfNums y).data.toList := fun e => h (str_inj x y hx hy e)
    simpa [ByteArray.toList_eq] using this

/-- 'string(b)' -/
theorem run_string (w : World) (a : Option Addr) (z : List Int) (n c : Nat) (hn : z.length = n) (h : Bytes w a z) : (convert 22 9 (.slice a n c)).run Try.prog w = .ok (.string (strOfNums z)) w := by
  subst hn
  rcases h with rfl | ⟨b, off, rfl, hc⟩
  · rw [run_convert_bytes_string w 22 9 5 _ _ c Try.underlying22 Try.underlying5 Try.underlying9]
    cases a <;> simp [Conv.bytesToString, loadCells]
    all_goals rfl
  · exact run_convert_bytes_arg w 22 5 Try.underlying22 Try.underlying5 b off _ c z rfl hc 9 Try.underlying9

/-- bytes.Equal -/
theorem bytesEqual_any (a b : Option Addr) (x y : List Int) (n m ca cb : Nat) (w : World) (hn : Hid (x.length = n)) (hm : Hid (y.length = m)) (ha : Bytes w a x) (hb : Bytes w b y) (hx : Byt x) (hy : Byt y) (r : Bool) (hr : Hid (decide (x = y) = r)) :
    Calls Try.prog 27 #[.slice a n ca, .slice b m cb] w fun e w' => e = .returned (.bool r) ∧ w' = w := by
  have h1 := run_string w a x n ca hn.out ha
  have h2 := run_string w b y m cb hm.out hb
  have HE := hid ((str_eq x y hx hy).trans hr.out)
  clear ha hb hx hy hr
  generalize strOfNums x = sx at *
  generalize strOfNums y = sy at *
  go_enter Try.func27, Try.ntmps27
  go_wp2
  go_ret
  exact ⟨by rw [← HE.out]; rfl, rfl⟩

/-- A slice of members ('member': four numbers; the second and the third say where a key lies) -/
def Mems (w : World) (a : Option Addr) (M : List (Int × Int × Int × Int)) : Prop :=
  M = [] ∨ ∃ b off, a = some ⟨b, off, none⟩ ∧ ∀ i, i < M.length →
    w.cell? ⟨b, off + i * 4, none⟩ = some (.int .i64 (M.getD i (0, 0, 0, 0)).1) ∧ w.cell? ⟨b, off + i * 4 + 1, none⟩ = some (.int .i64 (M.getD i (0, 0, 0, 0)).2.1) ∧
    w.cell? ⟨b, off + i * 4 + 2, none⟩ = some (.int .i64 (M.getD i (0, 0, 0, 0)).2.2.1) ∧ w.cell? ⟨b, off + i * 4 + 3, none⟩ = some (.int .i64 (M.getD i (0, 0, 0, 0)).2.2.2)

end Go.Proofs.Qxb6604022a
