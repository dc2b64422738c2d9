/-
  THE PLAIN MATHEMATICS OF THE SEAT: no Go in sight. A body is a list of integers; a place past its end reads as 0.
-/
namespace Go.Proofs.Qxb6604007a.Plain

/-! ### the end of a run of bytes -/
def runE (p : Int → Bool) (z : List Int) (i : Nat) : Nat := i + ((z.drop i).takeWhile p).length

theorem drop_cons (z : List Int) (i : Nat) (h : i < z.length) : z.drop i = z.getD i 0 :: z.drop (i + 1) := by
  rw [List.drop_eq_getElem_cons h]
  congr 1
  simp [List.getD, List.getElem?_eq_getElem h]

theorem runE_step (p : Int → Bool) (z : List Int) (i : Nat) (h : i < z.length) (hp : p (z.getD i 0) = true) : runE p z (i + 1) = runE p z i := by
  unfold runE
  rw [drop_cons z i h, List.takeWhile_cons_of_pos hp]
  simp; omega

theorem runE_no (p : Int → Bool) (z : List Int) (i : Nat) (hp : p (z.getD i 0) = false) : runE p z i = i := by
  unfold runE
  by_cases h : i < z.length
  · rw [drop_cons z i h, List.takeWhile_cons_of_neg (by rw [hp]; simp)]; simp
  · rw [List.drop_eq_nil_of_le (by omega)]; simp

theorem runE_end (p : Int → Bool) (z : List Int) (i : Nat) (h : z.length ≤ i) : runE p z i = i := by
  unfold runE
  rw [List.drop_eq_nil_of_le h]; simp

theorem runE_ge (p : Int → Bool) (z : List Int) (i : Nat) : i ≤ runE p z i := by unfold runE; omega

theorem takeWhile_len (p : Int → Bool) (l : List Int) : (l.takeWhile p).length ≤ l.length := by
  induction l with
  | nil => simp
  | cons a l ih => by_cases h : p a = true <;> simp [h]; omega

theorem runE_le (p : Int → Bool) (z : List Int) (i : Nat) (h : i ≤ z.length) : runE p z i ≤ z.length := by
  unfold runE
  have := takeWhile_len p (z.drop i)
  simp at this; omega

/-! ### white space, the walker's step -/
def ws (c : Int) : Bool := c == 32 || c == 9 || c == 10 || c == 13
def sk (z : List Int) (i : Nat) : Nat := runE ws z i
def nxt (z : List Int) (strict : Bool) (i : Nat) (c : Int) : Int :=
  if z.getD (sk z i) 0 = 44 then
    (if strict = true ∧ z.getD (sk z (sk z i + 1)) 0 = c then -1 else ((sk z (sk z i + 1) : Nat) : Int))
  else if strict = true ∧ z.getD (sk z i) 0 ≠ c then -1 else ((sk z i : Nat) : Int)

theorem nxt_loose (z : List Int) (i : Nat) (c d : Int) : nxt z false i c = nxt z false i d := by simp [nxt]
theorem nxt_loose_ge (z : List Int) (i : Nat) (c : Int) : (i : Int) ≤ nxt z false i c := by
  have h1 := runE_ge ws z i
  have h2 := runE_ge ws z (sk z i + 1)
  unfold nxt
  unfold sk at *
  simp
  split <;> omega
theorem nxt_strict (z : List Int) (i : Nat) (c : Int) : nxt z true i c = -1 ∨ nxt z true i c = nxt z false i c := by
  unfold nxt
  simp
  by_cases h : z[sk z i]?.getD 0 = 44 <;> simp [h]
  · by_cases h2 : z[sk z (sk z i + 1)]?.getD 0 = c <;> simp [h2]
  · by_cases h2 : z[sk z i]?.getD 0 = c <;> simp [h2]

/-! ### the counting model: where its loop ends, and how many commas it has passed -/
def mod (z : List Int) (p : Nat) (c : Nat) : Nat × Nat :=
  if c = 0 then (if z.getD (sk z p) 0 = 44 then (sk z (sk z p + 1), 1) else (sk z p, 0)) else (sk z p, c)

theorem mod_ws (z : List Int) (p c : Nat) (h : p < z.length) (hp : ws (z.getD p 0) = true) : mod z (p + 1) c = mod z p c := by
  unfold mod sk
  rw [runE_step ws z p h hp]
theorem mod_comma (z : List Int) (p : Nat) (hp : z.getD p 0 = 44) : mod z (p + 1) 1 = mod z p 0 := by
  have e : sk z p = p := runE_no ws z p (by rw [hp]; rfl)
  unfold mod
  rw [e]
  simp only [hp]; simp
theorem mod_end (z : List Int) (p c : Nat) (h : z.length ≤ p) : mod z p c = (p, c) := by
  have e : sk z p = p := runE_end ws z p h
  unfold mod
  rw [e]
  have : z.getD p 0 = 0 := by simp [List.getD, List.getElem?_eq_none h]
  rw [this]
  simp only [show ¬ ((0 : Int) = 44) by omega, if_false]
  split <;> simp_all
theorem mod_stop (z : List Int) (p c : Nat) (h1 : ws (z.getD p 0) = false) (h2 : z.getD p 0 ≠ 44 ∨ c ≠ 0) : mod z p c = (p, c) := by
  have e : sk z p = p := runE_no ws z p h1
  unfold mod
  rw [e]
  by_cases hc : c = 0
  · subst hc
    have : z.getD p 0 ≠ 44 := by rcases h2 with h | h; exact h; exact absurd rfl h
    rw [if_pos rfl, if_neg this]
  · rw [if_neg hc]

theorem nxt_mod_loose (z : List Int) (i : Nat) (c : Int) : nxt z false i c = ((mod z i 0).1 : Int) := by
  unfold nxt mod
  simp
  split <;> rfl
/-- the strict answer off the model's end -/
theorem nxt_mod_strict (z : List Int) (i : Nat) (c : Int) (p k : Nat) (h : mod z i 0 = (p, k)) :
    (k = 0 ∨ k = 1) ∧ nxt z true i c = if (k = 1) ↔ ¬ (z.getD p 0 = c) then (p : Int) else -1 := by
  unfold mod at h
  unfold nxt
  rw [if_pos rfl] at h
  by_cases h1 : z.getD (sk z i) 0 = 44
  · rw [if_pos h1] at h ⊢
    obtain ⟨rfl, rfl⟩ := Prod.mk.inj h
    refine ⟨.inr rfl, ?_⟩
    by_cases h2 : z.getD (sk z (sk z i + 1)) 0 = c <;> simp only [h2] <;> simp
  · rw [if_neg h1] at h ⊢
    obtain ⟨rfl, rfl⟩ := Prod.mk.inj h
    refine ⟨.inl rfl, ?_⟩
    by_cases h2 : z.getD (sk z i) 0 = c
    · simp only [h2]; simp
    · rw [if_pos ⟨rfl, h2⟩, if_neg (by simp only [h2]; simp)]

/-! ### numbers -/
def dg (c : Int) : Bool := decide (48 ≤ c) && decide (c ≤ 57)
def de (z : List Int) (i : Nat) : Nat := runE dg z i
/-- behind the fraction: the exponent -/
def numE (z : List Int) (i : Nat) : Int :=
  if z.getD i 0 = 101 ∨ z.getD i 0 = 69 then
    let f := if z.getD (i + 1) 0 = 43 ∨ z.getD (i + 1) 0 = 45 then i + 2 else i + 1
    if de z f = f then -1 else ((de z f : Nat) : Int)
  else (i : Int)
/-- behind the integer part -/
def numF (z : List Int) (i : Nat) : Int :=
  if z.getD i 0 = 46 then
    if de z (i + 1) = i + 1 then -1 else numE z (de z (i + 1))
  else numE z i
/-- behind the sign -/
def numI (z : List Int) (i : Nat) : Int :=
  if z.getD i 0 = 48 then numF z (i + 1)
  else if 49 ≤ z.getD i 0 ∧ z.getD i 0 ≤ 57 then numF z (de z (i + 1))
  else -1
def num (z : List Int) (i : Nat) : Int := if z.getD i 0 = 45 then numI z (i + 1) else numI z i

/-! ### the automaton -/
def firstD (c : Int) : Int := if c = 48 then 2 else if 49 ≤ c ∧ c ≤ 57 then 3 else 9
def step (s : Int) (c : Int) : Int :=
  if s = 0 then (if c = 45 then 1 else firstD c)
  else if s = 1 then firstD c
  else if s = 2 ∨ s = 3 then
    (if s = 3 ∧ dg c = true then 3 else if c = 46 then 4 else if c = 101 ∨ c = 69 then 6 else 9)
  else if s = 4 then (if dg c = true then 5 else 9)
  else if s = 5 then (if dg c = true then 5 else if c = 101 ∨ c = 69 then 6 else 9)
  else if s = 6 then (if c = 43 ∨ c = 45 then 7 else if dg c = true then 8 else 9)
  else if s = 7 ∨ s = 8 then (if dg c = true then 8 else 9)
  else 9
def acc (s : Int) : Bool := s == 2 || s == 3 || s == 5 || s == 8

/-- run the automaton over a list: the state in which it stands, and how many bytes it took -/
def auto : Int → List Int → Int × Nat
  | s, [] => (s, 0)
  | s, c :: r => if step s c = 9 then (s, 0) else ((auto (step s c) r).1, (auto (step s c) r).2 + 1)

/-- the model's answer -/
def fin (i : Nat) (a : Int × Nat) : Int := if acc a.1 = true then ((i + a.2 : Nat) : Int) else -1

theorem auto_go (s : Int) (z : List Int) (p : Nat) (h : p < z.length) (hs : step s (z.getD p 0) ≠ 9) :
    auto s (z.drop p) = ((auto (step s (z.getD p 0)) (z.drop (p + 1))).1, (auto (step s (z.getD p 0)) (z.drop (p + 1))).2 + 1) := by
  rw [drop_cons z p h]
  simp only [auto]
  rw [if_neg hs]
theorem auto_stop (s : Int) (z : List Int) (p : Nat) (hs : step s (z.getD p 0) = 9) : auto s (z.drop p) = (s, 0) := by
  by_cases h : p < z.length
  · rw [drop_cons z p h]; simp only [auto]; rw [if_pos hs]
  · rw [List.drop_eq_nil_of_le (by omega)]; rfl
theorem auto_end (s : Int) (z : List Int) (p : Nat) (h : z.length ≤ p) : auto s (z.drop p) = (s, 0) := by
  rw [List.drop_eq_nil_of_le h]; rfl

theorem getD_zero (z : List Int) (p : Nat) (h : z.length ≤ p) : z.getD p 0 = 0 := by simp [List.getD, List.getElem?_eq_none h]
theorem lt_of_ne (z : List Int) (p : Nat) (h : z.getD p 0 ≠ 0) : p < z.length := by
  by_cases hp : p < z.length
  · exact hp
  · exact absurd (getD_zero z p (by omega)) h

theorem fin_go (s : Int) (z : List Int) (p : Nat) (t : Int) (hc : z.getD p 0 ≠ 0) (ht : step s (z.getD p 0) = t) (h9 : t ≠ 9) :
    fin p (auto s (z.drop p)) = fin (p + 1) (auto t (z.drop (p + 1))) := by
  rw [auto_go s z p (lt_of_ne z p hc) (by rw [ht]; exact h9), ht]
  unfold fin
  simp only
  split
  · congr 1; omega
  · rfl
theorem fin_stop (s : Int) (z : List Int) (p : Nat) (ht : step s (z.getD p 0) = 9) :
    fin p (auto s (z.drop p)) = if acc s = true then (p : Int) else -1 := by
  rw [auto_stop s z p ht]; unfold fin; simp

/-- a state that digits keep: the run of digits is passed -/
theorem fin_run (s : Int) (z : List Int) (hs : ∀ c, dg c = true → step s c = s) (h9 : s ≠ 9) (n : Nat) : ∀ p, z.length - p ≤ n → 
    fin p (auto s (z.drop p)) = fin (de z p) (auto s (z.drop (de z p))) := by
  induction n with
  | zero =>
    intro p hp
    have : de z p = p := runE_end dg z p (by omega)
    rw [this]
  | succ n ih =>
    intro p hp
    by_cases hd : dg (z.getD p 0) = true
    · have hc : z.getD p 0 ≠ 0 := by intro e; rw [e] at hd; simp [dg] at hd
      have hl := lt_of_ne z p hc
      rw [fin_go s z p s hc (hs _ hd) h9, ih (p + 1) (by omega)]
      have : de z (p + 1) = de z p := runE_step dg z p hl hd
      rw [this]
    · have : de z p = p := runE_no dg z p (by simpa using hd)
      rw [this]

theorem dg_de (z : List Int) (n : Nat) : ∀ p, z.length - p ≤ n → dg (z.getD (de z p) 0) = false := by
  induction n with
  | zero =>
    intro p hp
    have : de z p = p := runE_end dg z p (by omega)
    rw [this, getD_zero z p (by omega)]; rfl
  | succ n ih =>
    intro p hp
    by_cases hd : dg (z.getD p 0) = true
    · have hc : z.getD p 0 ≠ 0 := by intro e; rw [e] at hd; simp [dg] at hd
      have hl := lt_of_ne z p hc
      have : de z (p + 1) = de z p := runE_step dg z p hl hd
      rw [← this]; exact ih (p + 1) (by omega)
    · have : de z p = p := runE_no dg z p (by simpa using hd)
      rw [this]; simpa using hd

theorem dg_iff (c : Int) : dg c = true ↔ 48 ≤ c ∧ c ≤ 57 := by simp [dg]
theorem dg_no (c : Int) : dg c = false ↔ ¬ (48 ≤ c ∧ c ≤ 57) := by rw [← dg_iff]; simp

theorem de_at (z : List Int) (p : Nat) : dg (z.getD (de z p) 0) = false := dg_de z _ p (Nat.le_refl _)

/-- at a place where no digit stands: states 7 and 8 -/
theorem fin_exp (z : List Int) (f : Nat) (s : Int) (hs : s = 7 ∨ s = 6 ∧ ¬ (z.getD f 0 = 43 ∨ z.getD f 0 = 45)) :
    fin f (auto s (z.drop f)) = if de z f = f then -1 else ((de z f : Nat) : Int) := by
  by_cases hd : dg (z.getD f 0) = true
  · have hc : z.getD f 0 ≠ 0 := by intro e; rw [e] at hd; simp [dg] at hd
    have hst : step s (z.getD f 0) = 8 := by
      rcases hs with rfl | ⟨rfl, hn⟩
      · simp only [step]; simp only [hd]; simp
      · simp only [step]; simp only [hd, hn]; simp
    rw [fin_go s z f 8 hc hst (by omega), fin_run 8 z (fun c hc => by simp only [step, hc]; simp) (by omega) _ (f + 1) (Nat.le_refl _)]
    have e1 : de z (f + 1) = de z f := runE_step dg z f (lt_of_ne z f hc) hd
    have e2 := runE_ge dg z (f + 1)
    have hn := de_at z f
    rw [e1, fin_stop 8 z (de z f) (by simp only [step, hn]; simp)]
    have e3 : de z f ≠ f := by unfold de at *; omega
    rw [if_neg e3]; rfl
  · have hd' : dg (z.getD f 0) = false := by simpa using hd
    have e : de z f = f := runE_no dg z f hd'
    have hst : step s (z.getD f 0) = 9 := by
      rcases hs with rfl | ⟨rfl, hn⟩
      · simp only [step]; simp only [hd']; simp
      · simp only [step]; simp only [hd', hn]; simp
    rw [fin_stop s z f hst, e, if_pos rfl]
    rcases hs with rfl | ⟨rfl, hn⟩ <;> rfl

/-- behind the fraction, or where no fraction stands: states 2, 3, 5 at no digit and no dot -/
theorem fin_E (z : List Int) (i : Nat) (s : Int) (hs : s = 2 ∧ z.getD i 0 ≠ 46 ∨ s = 3 ∧ z.getD i 0 ≠ 46 ∧ dg (z.getD i 0) = false ∨ s = 5 ∧ dg (z.getD i 0) = false) :
    fin i (auto s (z.drop i)) = numE z i := by
  unfold numE
  by_cases he : z.getD i 0 = 101 ∨ z.getD i 0 = 69
  · rw [if_pos he]
    have hc : z.getD i 0 ≠ 0 := by omega
    have hst : step s (z.getD i 0) = 6 := by
      rcases hs with ⟨rfl, h⟩ | ⟨rfl, h, hd⟩ | ⟨rfl, hd⟩
      · simp only [step, he, h]; simp
      · simp only [step, he, h, hd]; simp
      · simp only [step, he, hd]; simp
    rw [fin_go s z i 6 hc hst (by omega)]
    by_cases hg : z.getD (i + 1) 0 = 43 ∨ z.getD (i + 1) 0 = 45
    · simp only [hg, if_true]
      rw [fin_go 6 z (i + 1) 7 (by omega) (by simp only [step, hg]; simp) (by omega)]
      exact fin_exp z (i + 2) 7 (.inl rfl)
    · simp only [hg, if_false]
      exact fin_exp z (i + 1) 6 (.inr ⟨rfl, hg⟩)
  · rw [if_neg he]
    have hst : step s (z.getD i 0) = 9 := by
      rcases hs with ⟨rfl, h⟩ | ⟨rfl, h, hd⟩ | ⟨rfl, hd⟩
      · simp only [step, he, h]; simp
      · simp only [step, he, h, hd]; simp
      · simp only [step, he, hd]; simp
    rw [fin_stop s z i hst]
    rcases hs with ⟨rfl, h⟩ | ⟨rfl, h, hd⟩ | ⟨rfl, hd⟩ <;> rfl

/-- behind the integer part: states 2 and 3 -/
theorem fin_F (z : List Int) (i : Nat) (s : Int) (hs : s = 2 ∨ s = 3 ∧ dg (z.getD i 0) = false) :
    fin i (auto s (z.drop i)) = numF z i := by
  unfold numF
  by_cases hd : z.getD i 0 = 46
  · rw [if_pos hd]
    have hst : step s (z.getD i 0) = 4 := by
      rcases hs with rfl | ⟨rfl, h⟩
      · simp only [step, hd]; simp
      · simp only [step, hd]; simp [dg]
    rw [fin_go s z i 4 (by omega) hst (by omega)]
    by_cases h1 : dg (z.getD (i + 1) 0) = true
    · have hc : z.getD (i + 1) 0 ≠ 0 := by intro e; rw [e] at h1; simp [dg] at h1
      rw [fin_go 4 z (i + 1) 5 hc (by simp only [step, h1]; simp) (by omega), fin_run 5 z (fun c hc => by simp only [step, hc]; simp) (by omega) _ (i + 1 + 1) (Nat.le_refl _)]
      have e1 : de z (i + 1 + 1) = de z (i + 1) := runE_step dg z (i + 1) (lt_of_ne z (i + 1) hc) h1
      have e2 := runE_ge dg z (i + 1 + 1)
      have e3 : de z (i + 1) ≠ i + 1 := by unfold de at *; omega
      rw [if_neg e3, e1]
      exact fin_E z _ 5 (.inr (.inr ⟨rfl, de_at z _⟩))
    · have h1' : dg (z.getD (i + 1) 0) = false := by simpa using h1
      have e : de z (i + 1) = i + 1 := runE_no dg z (i + 1) h1'
      rw [if_pos e, fin_stop 4 z (i + 1) (by simp only [step, h1']; simp)]
      rfl
  · rw [if_neg hd]
    rcases hs with rfl | ⟨rfl, h⟩
    · exact fin_E z i 2 (.inl ⟨rfl, hd⟩)
    · exact fin_E z i 3 (.inr (.inl ⟨rfl, hd, h⟩))

theorem fin_I (z : List Int) (i : Nat) (s : Int) (hs : s = 1 ∨ s = 0 ∧ z.getD i 0 ≠ 45) :
    fin i (auto s (z.drop i)) = numI z i := by
  have hst : step s (z.getD i 0) = firstD (z.getD i 0) := by
    rcases hs with rfl | ⟨rfl, h⟩
    · simp only [step]; simp
    · simp only [step, h]; simp
  unfold numI
  by_cases h0 : z.getD i 0 = 48
  · rw [if_pos h0]
    rw [fin_go s z i 2 (by omega) (by rw [hst]; simp only [firstD, h0]; simp) (by omega)]
    exact fin_F z _ 2 (.inl rfl)
  · rw [if_neg h0]
    by_cases h1 : 49 ≤ z.getD i 0 ∧ z.getD i 0 ≤ 57
    · rw [if_pos h1]
      rw [fin_go s z i 3 (by omega) (by rw [hst]; simp only [firstD, h0, h1]; simp) (by omega), fin_run 3 z (fun c hc => by simp only [step, hc]; simp) (by omega) _ (i + 1) (Nat.le_refl _)]
      exact fin_F z _ 3 (.inr ⟨rfl, de_at z _⟩)
    · rw [if_neg h1]
      rw [fin_stop s z i (by rw [hst]; simp only [firstD, h0, h1]; simp)]
      rcases hs with rfl | ⟨rfl, h⟩ <;> rfl

/-- THE FIRST LAW: the number's end is what the automaton finds. -/
theorem num_auto (z : List Int) (i : Nat) : num z i = fin i (auto 0 (z.drop i)) := by
  unfold num
  by_cases h : z.getD i 0 = 45
  · rw [if_pos h, fin_go 0 z i 1 (by omega) (by simp only [step, h]; simp) (by omega)]
    exact (fin_I z (i + 1) 1 (.inl rfl)).symm
  · rw [if_neg h]
    exact (fin_I z i 0 (.inr ⟨rfl, h⟩)).symm

/-! ### locality -/
theorem auto_take (l : List Int) : ∀ s, auto s (l.take (auto s l).2) = auto s l := by
  induction l with
  | nil => intro s; simp [auto]
  | cons c r ih =>
    intro s
    simp only [auto]
    by_cases h : step s c = 9
    · simp [h, auto]
    · simp only [h, if_false, List.take_succ_cons, auto]
      rw [ih]
theorem auto_le (l : List Int) : ∀ s, (auto s l).2 ≤ l.length := by
  induction l with
  | nil => intro s; simp [auto]
  | cons c r ih =>
    intro s
    simp only [auto]
    by_cases h : step s c = 9
    · simp [h]
    · simp only [h, if_false, List.length_cons]
      have := ih (step s c); omega
theorem step_acc (s c : Int) (h : acc (step s c) = true) : dg c = true := by
  by_cases hd : dg c = true
  · exact hd
  · exfalso
    have hd' : dg c = false := by simpa using hd
    have hn := (dg_no c).1 hd'
    have h48 : ¬ c = 48 := by omega
    have h49 : ¬ (49 ≤ c ∧ c ≤ 57) := by omega
    unfold step firstD at h
    simp only [hd', h48, h49] at h
    revert h
    simp only [if_false, Bool.false_eq_true, and_false]
    repeat' split
    all_goals decide
theorem auto_last (l : List Int) : ∀ s, acc (auto s l).1 = true → (auto s l).2 ≠ 0 → dg (l.getD ((auto s l).2 - 1) 0) = true := by
  induction l with
  | nil => intro s _ h; simp [auto] at h
  | cons c r ih =>
    intro s ha hn
    simp only [auto] at ha hn ⊢
    by_cases h : step s c = 9
    · simp [h] at hn
    · simp only [h, if_false] at ha hn ⊢
      by_cases h2 : (auto (step s c) r).2 = 0
      · rw [h2]
        simp
        have e : (auto (step s c) r).1 = step s c := by
          cases r with
          | nil => rfl
          | cons d r' =>
            simp only [auto] at h2 ⊢
            by_cases h3 : step (step s c) d = 9
            · simp [h3]
            · simp [h3] at h2
        rw [e] at ha
        exact step_acc s c ha
      · have := ih (step s c) ha h2
        obtain ⟨m, hm⟩ : ∃ m, (auto (step s c) r).2 = m + 1 := ⟨(auto (step s c) r).2 - 1, by omega⟩
        rw [hm] at this ⊢
        simpa using this

theorem auto_pos (l : List Int) (ha : acc (auto 0 l).1 = true) : (auto 0 l).2 ≠ 0 := by
  intro h
  have e : (auto 0 l).1 = 0 := by
    cases l with
    | nil => rfl
    | cons c r =>
      simp only [auto] at h ⊢
      by_cases h3 : step 0 c = 9
      · simp [h3]
      · simp [h3] at h
  rw [e] at ha
  simp [acc] at ha

/-- cut off what lies before i: the end moves by i -/
theorem num_shift (z : List Int) (i : Nat) : num z i = -1 ∧ num (z.drop i) 0 = -1 ∨ ∃ n : Nat, 0 < n ∧ i + n ≤ z.length ∧ num z i = ((i + n : Nat) : Int) ∧ num (z.drop i) 0 = (n : Int) ∧ dg (z.getD (i + n - 1) 0) = true ∧ num (z.take (i + n)) i = ((i + n : Nat) : Int) := by
  rw [num_auto z i, num_auto (z.drop i) 0]
  simp only [List.drop_zero]
  by_cases ha : acc (auto 0 (z.drop i)).1 = true
  · refine .inr ⟨(auto 0 (z.drop i)).2, ?_, ?_, ?_, ?_, ?_, ?_⟩
    · have := auto_pos _ ha; omega
    · have h1 := auto_le (z.drop i) 0
      have h2 := auto_pos _ ha
      simp at h1; omega
    · simp [fin, ha]
    · simp [fin, ha]
    · have h2 := auto_pos _ ha
      have := auto_last (z.drop i) 0 ha h2
      simp only [List.getD_eq_getElem?_getD, List.getElem?_drop] at this ⊢
      rw [show i + (auto 0 (z.drop i)).2 - 1 = i + ((auto 0 (z.drop i)).2 - 1) by omega]
      exact this
    · rw [num_auto]
      have e : (z.take (i + (auto 0 (z.drop i)).2)).drop i = (z.drop i).take (auto 0 (z.drop i)).2 := by
        rw [List.drop_take]; congr 1; omega
      rw [e, auto_take]
      simp [fin, ha]
  · refine .inl ⟨?_, ?_⟩ <;> simp [fin, ha]

end Go.Proofs.Qxb6604007a.Plain
