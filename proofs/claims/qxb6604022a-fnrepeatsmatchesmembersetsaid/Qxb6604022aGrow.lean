/-
  SLICES OF BYTES: 'Bytes' (one that reads as a list), 'Own' (one that the call itself owns), 'Grow' (what a row of appends leaves), and the append as a law for the walk.
-/
import Derived.Test.Qxb6604022aProg
import Derived.WalkKit
import Derived.ProofKit
import Derived.Below
import Derived.WalkSpells
import Derived.Laws.CopyOwn
import Derived.Lib.SliceRun
import Derived.Lib.AppendStr
import Derived.Maps.AppendAt
namespace Go.Proofs.Qxb6604022a
open Go.ChangeShapes Go.WideShapes Go.ChangeAt Go.RowKit
set_option linter.unusedVariables false

theorem Try.info5 : (Try.prog.info? 5).map (fun i => (i.zero, i.size, i.bytes)) = some (some (.int .u8 0), 1, 1) := by kernel_rfl
theorem Try.size5 : (Try.prog.info? 5).map (·.size) = some 1 := by kernel_rfl

theorem hid {p : Prop} (h : p) : Hid p := h

/-- the cells of a list of bytes -/
def cells (z : List Int) : List Value := z.map (Value.int .u8)
theorem cells_length (z : List Int) : (cells z).length = z.length := by simp [cells]
theorem cells_append (x y : List Int) : cells (x ++ y) = cells x ++ cells y := by simp [cells]
theorem cells_one (z : List Int) : ∀ u ∈ cells z, u.oneCell' = true := ints_oneCell _ _
theorem cells_at (z : List Int) (j : Nat) (v : Value) (h : (cells z)[j]? = some v) : j < z.length ∧ v = .int .u8 (z.getD j 0) := by
  unfold cells at h
  rw [List.getElem?_map] at h
  cases hj : z[j]? with
  | none => rw [hj] at h; simp at h
  | some c =>
    rw [hj] at h
    simp at h
    have := (List.getElem?_eq_some_iff.1 hj).1
    refine ⟨this, ?_⟩
    rw [← h]; simp [List.getD, hj]
theorem cells_get (z : List Int) (j : Nat) (h : j < z.length) : (cells z)[j]? = some (.int .u8 (z.getD j 0)) := by
  simp [cells, List.getD, h]

/-- A slice of bytes at address 'a' that reads as 'z'. -/
def Bytes (w : World) (a : Option Addr) (z : List Int) : Prop :=
  z = [] ∨ ∃ b off, a = some ⟨b, off, none⟩ ∧ ∀ k, k < z.length → w.cell? ⟨b, off + k, none⟩ = some (.int .u8 (z.getD k 0))

theorem Bytes.below {w w' : World} {a : Option Addr} {z : List Int} (h : Bytes w a z) (hb : Below w.heap.size w w') : Bytes w' a z := by
  rcases h with h | ⟨b, off, ha, hc⟩
  · exact .inl h
  · refine .inr ⟨b, off, ha, fun k hk => ?_⟩
    have h1 := hc k hk
    have hlt : b < w.heap.size := World.block_lt_of_cell? w ⟨b, off + k, none⟩ h1
    rw [hb.cell (p := ⟨b, off + k, none⟩) hlt]
    exact h1
theorem Bytes.alloc {w : World} {a : Option Addr} {z : List Int} (h : Bytes w a z) (o : Obj) : Bytes (w.alloc o) a z :=
  h.below ((Below.refl _ _).alloc (Nat.le_refl _) o)
/-- behind writes to one row that is not its own -/
theorem Bytes.grown {w w' : World} {a : Option Addr} {z : List Int} {row : Option Nat} (h : Bytes w a z) (hg : w.grownBy w' row) (hne : ∀ x, a = some x → row ≠ some x.block) : Bytes w' a z := by
  rcases h with h | ⟨b, off, ha, hc⟩
  · exact .inl h
  · refine .inr ⟨b, off, ha, fun k hk => ?_⟩
    exact hg.cell (hc k hk) (fun e => hne _ ha e.symm)
theorem Bytes.new (w : World) (z : List Int) : Bytes (w.alloc (.cells (cells z).toArray 5)) (some ⟨w.heap.size, 0, none⟩) z := by
  refine .inr ⟨w.heap.size, 0, rfl, fun k hk => ?_⟩
  rw [Nat.zero_add, cell_of_row _ w.heap.size k _ 5 (0, 0) (heap_alloc_new w _)]
  simp [cells, List.getD, hk]
theorem Bytes.part {w : World} {b off : Nat} {z : List Int} (h : Bytes w (some ⟨b, off, none⟩) z) (i j : Nat) : Bytes w (some ⟨b, off + i, none⟩) ((z.drop i).take j) := by
  rcases h with h | ⟨b', off', ha, hc⟩
  · subst h; exact .inl (by simp)
  · obtain ⟨rfl, rfl⟩ : b = b' ∧ off = off' := by simpa using ha
    refine .inr ⟨b, off + i, rfl, fun k hk => ?_⟩
    have hk' : k < j ∧ i + k < z.length := by simp at hk; omega
    rw [Nat.add_assoc, hc (i + k) hk'.2]
    simp [List.getD, hk'.1]
theorem Bytes.open {w : World} {a : Option Addr} {z : List Int} (h : Bytes w a z) (hz : 0 < z.length) : ∃ b off, a = some ⟨b, off, none⟩ ∧ ∀ k, k < z.length → w.cell? ⟨b, off + k, none⟩ = some (.int .u8 (z.getD k 0)) := by
  rcases h with rfl | h
  · simp at hz
  · exact h

/-- A slice of bytes that the call owns: nil, or at the head of a row of its own. -/
def Own (w : World) (v : Value) (xs : List Int) : Prop := w.ownsRow 0 5 1 v xs.length (cells xs)

theorem Own.nil (w : World) : Own w (.slice none 0 0) [] := World.ownsRow_nil w 0 5 1
theorem Own.alloc {w : World} {v : Value} {xs : List Int} (h : Own w v xs) (o : Obj) : Own (w.alloc o) v xs := World.ownsRow.alloc h o
/-- what it looks like -/
theorem Own.shape {w : World} {v : Value} {xs : List Int} (h : Own w v xs) : ∃ a cap, v = .slice a xs.length cap ∧ xs.length ≤ cap ∧ Bytes w a xs ∧ (a = none → xs = [] ∧ cap = 0) ∧ (∀ x, a = some x → v.ownBlock = some x.block ∧ x.block < w.heap.size ∧ x = ⟨x.block, 0, none⟩) := by
  rcases h.2 with ⟨rfl, h0⟩ | ⟨g, cap, cur, rfl, _, hg, hn, hm, hs, ht⟩
  · have hx : xs = [] := List.eq_nil_of_length_eq_zero h0
    subst hx
    exact ⟨none, 0, rfl, by simp, .inl rfl, fun _ => ⟨rfl, rfl⟩, fun x hx => by cases hx⟩
  · refine ⟨some ⟨g, 0, none⟩, cap, rfl, hn, .inr ⟨g, 0, rfl, fun k hk => ?_⟩, (fun hx => nomatch hx), fun x hx => ?_⟩
    · have := World.ownsRow.cells h (g := g) rfl k _ (cells_get xs k hk)
      rw [Addr.add_lit] at this
      exact this
    · obtain rfl := Option.some.inj hx
      exact ⟨rfl, (Array.getElem?_eq_some_iff.1 hg).1, rfl⟩

/-- WHAT A ROW OF APPENDS LEAVES: from the world w0 on, where the slice lay in row 'o' (or was nil), to the world w, where it is the value v and owns xs. -/
structure Grow (w0 : World) (o : Option Nat) (w : World) (v : Value) (xs : List Int) : Prop where
  own : Own w v xs
  kept : w0.grownBy w o
  place : v.ownBlock = o ∨ ∃ g, v.ownBlock = some g ∧ w0.heap.size ≤ g

theorem Grow.start {w : World} {v : Value} {xs : List Int} (h : Own w v xs) : Grow w v.ownBlock w v xs := ⟨h, World.grownBy.refl _ _, .inl rfl⟩
theorem Grow.step {w0 w w' : World} {o : Option Nat} {v v' : Value} {xs ys : List Int} (h : Grow w0 o w v xs) (own' : Own w' v' ys) (hg : w.grownBy w' v.ownBlock) (hp : v'.ownBlock = v.ownBlock ∨ ∃ g, v'.ownBlock = some g ∧ w.heap.size ≤ g) : Grow w0 o w' v' ys := by
  have hk := h.kept
  refine ⟨own', ⟨hg.os.trans hk.os, hg.tape.trans hk.tape, hg.output.trans hk.output, Nat.le_trans hk.size hg.size, fun k hk' hne => ?_⟩, ?_⟩
  · rw [hg.block k (Nat.lt_of_lt_of_le hk' hk.size) ?_]
    · exact hk.block k hk' hne
    · rcases h.place with e | ⟨g, e, hge⟩
      · rw [e]; exact hne
      · rw [e]; intro e2; have := Option.some.inj e2; omega
  · rcases hp with e | ⟨g, e, hge⟩
    · rw [e]; exact h.place
    · exact .inr ⟨g, e, Nat.le_trans hk.size hge⟩
theorem Grow.trans {w0 w w' : World} {o : Option Nat} {v v' : Value} {xs ys : List Int} (h : Grow w0 o w v xs) (k : Grow w v.ownBlock w' v' ys) : Grow w0 o w' v' ys := h.step k.own k.kept k.place
theorem Grow.alloc {w0 w : World} {o : Option Nat} {v : Value} {xs : List Int} (h : Grow w0 o w v xs) (b : Obj) : Grow w0 o (w.alloc b) v xs := h.step (h.own.alloc b) (World.grownBy_alloc w b _) (.inl rfl)
theorem Grow.bytes {w0 w : World} {o : Option Nat} {v : Value} {xs : List Int} (h : Grow w0 o w v xs) {a : Option Addr} {z : List Int} (hb : Bytes w0 a z) (hne : ∀ x, a = some x → o ≠ some x.block) : Bytes w a z := hb.grown h.kept hne
theorem Grow.below {w0 w : World} {o : Option Nat} {v : Value} {xs : List Int} (h : Grow w0 o w v xs) {B : Nat} (hB : B ≤ w0.heap.size) (ho : ∀ g, o = some g → B ≤ g) : Below B w0 w := (Below.refl _ _).grown h.kept hB ho
theorem Grow.size {w0 w : World} {o : Option Nat} {v : Value} {xs : List Int} (h : Grow w0 o w v xs) : w0.heap.size ≤ w.heap.size := h.kept.size
/-- a slice that the call owns and that lies in another row -/
theorem Own.grown {w w' : World} {row : Option Nat} {v : Value} {xs : List Int} (h : Own w v xs) (hg : w.grownBy w' row) (hne : v.ownBlock = none ∨ v.ownBlock ≠ row) : Own w' v xs := World.ownsRow.kept h hg hne

/-- APPEND OF A SLICE OF BYTES, as a law for the walk. -/
theorem wp_app {w : World} {ops : Array Oper} {rest : List Oper} {o : Oper} {a : Act} {Q : Exit → Act → World → Prop} (hgd : o.guard = none) (s x : Operand)
    (ho : o.op = .call { callee := .builtin .append, args := #[s, x], argTypes := #[22, 22] }) {w0 : World} {r : Option Nat} {v : Value} {xs : List Int} (hs : a.eval s = v) (hG : Grow w0 r w v xs)
    {ad : Option Addr} {m c : Nat} (hx : a.eval x = .slice ad m c) (news : List Int) (hl : news.length = m) (hB : Bytes w ad news) (hnil : ad = none → m = 0 ∧ c = 0) (hbd : xs.length + news.length ≤ 140737488355328)
    (h : ∀ v' w', Grow w0 r w' v' (xs ++ news) → wpList Try.prog ops Q rest (a.put o.dst v') w') : wpList Try.prog ops Q (o :: rest) a w := by
  obtain ⟨i0, hi, hz0, hz1, hz2⟩ := info_parts Try.info5
  subst hl
  cases ad with
  | none =>
    obtain ⟨h0, rfl⟩ := hnil rfl
    obtain rfl : news = [] := List.eq_nil_of_length_eq_zero h0
    refine wpList_plain hgd fun K hK => ?_
    have hrun := run_append_owned_none (P := Try.prog) w 0 22 o.type 5 i0 1 Try.underlying22 hi v xs.length (cells xs) hG.own
    unfold Oper.wp
    simp only [List.length_nil] at hx
    simp [execOp, ho, resolve, invoke, builtin, hs, hx, hrun, Result.andThen]
    exact hK _ _ (h v w (by simpa using hG))
  | some x' =>
    refine wpList_append_own_at _ hgd s x 22 ho 0 5 i0 (.int .u8 0) 1 1 Try.underlying22 hi hz0 hz1 hz2 rfl (by decide) v xs.length (cells xs) hs hG.own x' news.length c (cells news) hx (by simp [cells]) ?_ (cells_one news) (by unfold maxLen; omega) (by omega) (Nat.zero_le _) ?_
    · intro j u hj
      obtain ⟨hjl, rfl⟩ := cells_at news j u hj
      obtain ⟨b, off, hx', hc⟩ := hB.open (by omega)
      obtain rfl := Option.some.inj hx'
      rw [Addr.add_lit]
      exact hc j hjl
    · intro v' w' h1 h2 _ h4
      refine h v' w' (hG.step ?_ h2 ?_)
      · unfold Own
        rw [cells_append, List.length_append]
        exact h1
      · rcases h4 with e | e
        · exact .inl e
        · exact .inr ⟨_, e, Nat.le_refl _⟩

/-- a string's bytes as numbers -/
def strInts (s : ByteArray) : List Int := s.data.toList.map fun b => (b.toNat : Int)
theorem strInts_cells (s : ByteArray) : cells (strInts s) = Lib.strCells s := by
  simp [cells, strInts, Lib.strCells, List.map_map]
theorem strInts_length (s : ByteArray) : (strInts s).length = s.size := by
  rw [strInts, List.length_map, Array.length_toList]; rfl

theorem run_app_string (w : World) (ty : TypeId) (v : Value) (xs : List Int) (hown : Own w v xs) (s : ByteArray) (hbd : xs.length + s.size ≤ 140737488355328) :
    ∃ v' w', (Builtin.append_ #[22, 9] ty #[v, .string s]).run Try.prog w = .ok v' w' ∧ Own w' v' (xs ++ strInts s) ∧ w.grownBy w' v.ownBlock ∧ (v'.ownBlock = v.ownBlock ∨ ∃ g, v'.ownBlock = some g ∧ w.heap.size ≤ g) := by
  obtain ⟨i0, hi, hz0, hz1, hz2⟩ := info_parts Try.info5
  have law := fun base (h : w.ownsRow base 5 1 v xs.length (cells xs)) (hb : base ≤ w.heap.size) => Lib.run_append_own_string (P := Try.prog) w base 22 9 ty 5 i0 Try.underlying22 Try.underlying9 hi hz0 hz1 hz2 v xs.length (cells xs) h s (by unfold maxLen; omega) hbd hb
  obtain ⟨v', w', hr, h1, h2, _⟩ := law 0 hown (Nat.zero_le _)
  refine ⟨v', w', hr, ?_, h2, ?_⟩
  · unfold Own
    rw [cells_append, List.length_append, strInts_cells, strInts_length]
    exact h1
  · have hown2 := hown.2
    rcases hown2 with ⟨hv, hn⟩ | ⟨g, cap, cur, hv, _, hg, hnc, hcm, hcs, ht⟩
    · obtain ⟨v2, w2, hr2, k1, _, _⟩ := law w.heap.size ⟨hown.1, .inl ⟨hv, hn⟩⟩ (Nat.le_refl _)
      rw [hr] at hr2
      obtain ⟨rfl, rfl⟩ : v' = v2 ∧ w' = w2 := by simpa using hr2
      rcases k1.2 with ⟨e, _⟩ | ⟨g, cap, cur, e, hge, _⟩
      · left; rw [e, hv]
      · right; exact ⟨g, by rw [e]; rfl, hge⟩
    · subst hv
      by_cases hroom : xs.length + s.size ≤ cap
      · have hr2 := Lib.run_append_room_string (P := Try.prog) w 22 9 ty 5 i0 Try.underlying22 Try.underlying9 hi hz1 g xs.length cap cur hg s hroom (by omega)
        rw [hr] at hr2
        obtain ⟨rfl, _⟩ : v' = _ ∧ w' = _ := by simpa using hr2
        exact .inl rfl
      · have holds : ∀ j u, (cells xs)[j]? = some u → w.cell? ((⟨g, 0, none⟩ : Addr).add j) = some u := World.ownsRow.cells hown (g := g) rfl
        have hr2 := Lib.run_append_grow_string (P := Try.prog) w 22 9 ty 5 i0 (.int .u8 0) Try.underlying22 Try.underlying9 hi hz0 ⟨g, 0, none⟩ xs.length cap (cells xs) (by rw [hz1, cells_length]; omega) holds s (by omega) (by omega) (by rw [hz2]; exact growslice_fits (by omega) (by omega))
        rw [hr] at hr2
        obtain ⟨rfl, _⟩ : v' = _ ∧ w' = _ := by simpa using hr2
        exact .inr ⟨_, rfl, Nat.le_refl _⟩

/-- APPEND OF A STRING's BYTES, as a law for the walk. -/
theorem wp_app_string {w : World} {ops : Array Oper} {rest : List Oper} {o : Oper} {a : Act} {Q : Exit → Act → World → Prop} (hgd : o.guard = none) (s x : Operand)
    (ho : o.op = .call { callee := .builtin .append, args := #[s, x], argTypes := #[22, 9] }) {w0 : World} {r : Option Nat} {v : Value} {xs : List Int} (hs : a.eval s = v) (hG : Grow w0 r w v xs)
    (st : ByteArray) (hx : a.eval x = .string st) (hbd : xs.length + st.size ≤ 140737488355328)
    (h : ∀ v' w', Grow w0 r w' v' (xs ++ strInts st) → wpList Try.prog ops Q rest (a.put o.dst v') w') : wpList Try.prog ops Q (o :: rest) a w := by
  refine wpList_plain hgd fun K hK => ?_
  obtain ⟨v', w', hrun, h1, h2, h3⟩ := run_app_string w o.type v xs hG.own st hbd
  unfold Oper.wp execOp
  simp only [ho, resolve, invoke, builtin, Sem.run_bind, Sem.run_pure, Result.andThen_ok, List.map_toArray, List.map_cons, List.map_nil, hs, hx, hrun]
  exact hK _ _ (h v' w' (hG.step h1 h2 h3))

end Go.Proofs.Qxb6604022a
