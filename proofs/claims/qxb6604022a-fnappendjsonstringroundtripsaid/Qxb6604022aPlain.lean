/-
  THE PLAIN MATHEMATICS OF THE ESCAPES: no Go in sight.
-/
namespace Go.Proofs.Qxb6604022a.Plain

/-- a hex digit -/
def hex (v : Int) : Int := if v < 10 then 48 + v else 87 + v
/-- the JSON form of one byte -/
def esc (c : Int) : List Int :=
  if c = 34 then [92, 34] else if c = 92 then [92, 92] else if c = 8 then [92, 98] else if c = 12 then [92, 102] else if c = 10 then [92, 110]
  else if c = 13 then [92, 114] else if c = 9 then [92, 116] else if c < 32 then [92, 117, 48, 48, hex (c / 16), hex (c % 16)] else [c]

theorem esc_le (c : Int) : 1 ≤ (esc c).length ∧ (esc c).length ≤ 6 := by
  unfold esc
  repeat' split
  all_goals simp

/-- the bytes that are escaped -/
def sp (c : Int) : Bool := decide (c < 32) || c == 34 || c == 92
theorem esc_plain (c : Int) (h : sp c = false) : esc c = [c] := by
  simp [sp] at h
  unfold esc
  rw [if_neg (by omega), if_neg (by omega), if_neg (by omega), if_neg (by omega), if_neg (by omega), if_neg (by omega), if_neg (by omega), if_neg (by omega)]
theorem flat_plain (l : List Int) (h : ∀ c ∈ l, sp c = false) : l.flatMap esc = l := by
  induction l with
  | nil => rfl
  | cons c r ih =>
    rw [List.flatMap_cons, esc_plain c (h c (by simp)), ih (fun d hd => h d (by simp [hd]))]
    rfl

theorem flat_le (l : List Int) : l.length ≤ (l.flatMap esc).length ∧ (l.flatMap esc).length ≤ 6 * l.length := by
  induction l with
  | nil => simp
  | cons c r ih =>
    rw [List.flatMap_cons, List.length_append]
    have := esc_le c
    simp only [List.length_cons]
    omega

end Go.Proofs.Qxb6604022a.Plain
