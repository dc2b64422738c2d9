/-
  THE SCRIPT's MEMORY: a slice of bytes and a slice of members that grow beside each other; the keys that they hold.
-/
import Derived.Test.Qxb6604022aRepG
namespace Go.Proofs.Qxb6604022a
open Go.ChangeShapes Go.WideShapes Go.ChangeAt Go.RowKit
set_option linter.unusedVariables false

theorem Try.info37 : (Try.prog.info? 37).map (fun i => (i.zero, i.size, i.bytes)) = some (some (.agg #[.int .i64 0, .int .i64 0, .int .i64 0, .int .i64 0]), 4, 32) := by kernel_rfl

abbrev Mem := Int × Int × Int × Int
def cells1 (m : Mem) : List Value := [.int .i64 m.1, .int .i64 m.2.1, .int .i64 m.2.2.1, .int .i64 m.2.2.2]
def cells4 (M : List Mem) : List Value := M.flatMap cells1
theorem cells4_length (M : List Mem) : (cells4 M).length = M.length * 4 := by
  induction M with
  | nil => rfl
  | cons m r ih => simp [cells4, cells1] at *; omega
theorem cells4_append (M N : List Mem) : cells4 (M ++ N) = cells4 M ++ cells4 N := by simp [cells4]
theorem cells4_at (M : List Mem) (i c : Nat) (hi : i < M.length) (hc : c < 4) : (cells4 M)[i * 4 + c]? = (cells1 (M.getD i (0, 0, 0, 0)))[c]? := by
  induction M generalizing i with
  | nil => simp at hi
  | cons m r ih =>
    show (cells1 m ++ cells4 r)[i * 4 + c]? = _
    cases i with
    | zero => rw [List.getElem?_append_left (by simp [cells1]; omega)]; simp
    | succ i =>
      rw [List.getElem?_append_right (by simp [cells1]; omega)]
      rw [show (i + 1) * 4 + c - (cells1 m).length = i * 4 + c by simp [cells1]; omega, ih i (by simpa using hi)]
      simp
theorem cells4_one (M : List Mem) : ∀ u ∈ cells4 M, u.oneCell' = true := by
  intro u hu
  obtain ⟨m, _, h⟩ := List.mem_flatMap.1 hu
  simp [cells1] at h
  rcases h with rfl | rfl | rfl | rfl <;> rfl

/-- A slice of members that the call owns. -/
def OwnM (w : World) (v : Value) (M : List Mem) : Prop := w.ownsRow 0 37 4 v M.length (cells4 M)
theorem OwnM.nil (w : World) : OwnM w (.slice none 0 0) [] := World.ownsRow_nil w 0 37 4
theorem OwnM.shape {w : World} {v : Value} {M : List Mem} (h : OwnM w v M) : ∃ a c, v = .slice a M.length c ∧ Mems w a M := by
  rcases h.2 with ⟨rfl, h0⟩ | ⟨g, cap, cur, rfl, _, hg, hn, hm, hs, ht⟩
  · have hx : M = [] := List.eq_nil_of_length_eq_zero h0
    subst hx
    exact ⟨none, 0, rfl, .inl rfl⟩
  · refine ⟨some ⟨g, 0, none⟩, cap, rfl, .inr ⟨g, 0, rfl, fun i hi => ?_⟩⟩
    have hc := World.ownsRow.cells h (g := g) rfl
    have k0 := hc (i * 4 + 0) _ (by rw [cells4_at M i 0 hi (by omega)]; rfl)
    have k1 := hc (i * 4 + 1) _ (by rw [cells4_at M i 1 hi (by omega)]; rfl)
    have k2 := hc (i * 4 + 2) _ (by rw [cells4_at M i 2 hi (by omega)]; rfl)
    have k3 := hc (i * 4 + 3) _ (by rw [cells4_at M i 3 hi (by omega)]; rfl)
    rw [Addr.add_lit] at k0 k1 k2 k3
    simp only [Nat.zero_add, Nat.add_zero] at k0 k1 k2 k3 ⊢
    exact ⟨k0, k1, k2, k3⟩
theorem OwnM.grown {w w' : World} {row : Option Nat} {v : Value} {M : List Mem} (h : OwnM w v M) (hg : w.grownBy w' row) (hne : v.ownBlock = none ∨ v.ownBlock ≠ row) : OwnM w' v M := World.ownsRow.kept h hg hne
theorem OwnM.alloc {w : World} {v : Value} {M : List Mem} (h : OwnM w v M) (o : Obj) : OwnM (w.alloc o) v M := World.ownsRow.alloc h o

theorem Own.cells {w : World} {v : Value} {xs : List Int} (h : Own w v xs) {g : Nat} (hg : v.ownBlock = some g) : ∃ cur, w.heap[g]? = some (.cells cur 5 (0, 0)) := by
  rcases h.2 with ⟨rfl, _⟩ | ⟨g', cap, cur, rfl, _, hh, _⟩
  · simp [Value.ownBlock] at hg
  · simp [Value.ownBlock] at hg; subst hg; exact ⟨cur, hh⟩
theorem OwnM.cells {w : World} {v : Value} {M : List Mem} (h : OwnM w v M) {g : Nat} (hg : v.ownBlock = some g) : ∃ cur, w.heap[g]? = some (.cells cur 37 (0, 0)) := by
  rcases h.2 with ⟨rfl, _⟩ | ⟨g', cap, cur, rfl, _, hh, _⟩
  · simp [Value.ownBlock] at hg
  · simp [Value.ownBlock] at hg; subst hg; exact ⟨cur, hh⟩
theorem Own.ne_ownM {w : World} {v u : Value} {xs : List Int} {M : List Mem} (h : Own w v xs) (k : OwnM w u M) {g : Nat} (hg : v.ownBlock = some g) : u.ownBlock ≠ some g := by
  intro e
  obtain ⟨c1, h1⟩ := h.cells hg
  obtain ⟨c2, h2⟩ := k.cells e
  rw [h1] at h2; simp at h2
theorem Own.ne_seen {w : World} {v : Value} {xs : List Int} {SB : Nat} {r : Option Nat} (h : Own w v xs) (k : SeenIs w SB r) : v.ownBlock ≠ some SB := by
  intro e
  obtain ⟨c1, h1⟩ := h.cells e
  unfold SeenIs at k
  rw [h1] at k; simp at k
theorem OwnM.ne_seen {w : World} {v : Value} {M : List Mem} {SB : Nat} {r : Option Nat} (h : OwnM w v M) (k : SeenIs w SB r) : v.ownBlock ≠ some SB := by
  intro e
  obtain ⟨c1, h1⟩ := h.cells e
  unfold SeenIs at k
  rw [h1] at k; simp at k
theorem Own.ne_map {w : World} {v : Value} {xs : List Int} {B n : Nat} {A : List (List Int)} (h : Own w v xs) (k : MapIs w B n A) : v.ownBlock ≠ some B := by
  intro e
  obtain ⟨c1, h1⟩ := h.cells e
  obtain ⟨es, clock, h2, _⟩ := k
  rw [h1] at h2; simp at h2
theorem OwnM.ne_map {w : World} {v : Value} {M : List Mem} {B n : Nat} {A : List (List Int)} (h : OwnM w v M) (k : MapIs w B n A) : v.ownBlock ≠ some B := by
  intro e
  obtain ⟨c1, h1⟩ := h.cells e
  obtain ⟨es, clock, h2, _⟩ := k
  rw [h1] at h2; simp at h2
theorem MapIs.grown {w w' : World} {B n : Nat} {A : List (List Int)} {row : Option Nat} (h : MapIs w B n A) (hg : w.grownBy w' row) (hne : row ≠ some B) : MapIs w' B n A := World.ownsMap.kept h hg (fun e => hne e.symm)

/-- the two slices, and what lies below them -/
structure St (B0 : Nat) (w3 w : World) (vo : Value) (O : List Int) (vm : Value) (M : List Mem) : Prop where
  below : Below B0 w3 w
  size : B0 ≤ w.heap.size
  own : Own w vo O
  ownM : OwnM w vm M
  po : ∀ g, vo.ownBlock = some g → B0 ≤ g
  pm : ∀ g, vm.ownBlock = some g → B0 ≤ g

theorem St.grown {B0 : Nat} {w3 w w' : World} {vo vm : Value} {O : List Int} {M : List Mem} {row : Option Nat} (h : St B0 w3 w vo O vm M) (hg : w.grownBy w' row) (hb : ∀ g, row = some g → B0 ≤ g) (h1 : vo.ownBlock = none ∨ vo.ownBlock ≠ row) (h2 : vm.ownBlock = none ∨ vm.ownBlock ≠ row) : St B0 w3 w' vo O vm M :=
  ⟨h.below.grown hg h.size hb, Nat.le_trans h.size hg.size, h.own.grown hg h1, h.ownM.grown hg h2, h.po, h.pm⟩
theorem none_or {x : Option Nat} {y : Option Nat} (h : ∀ g, x = some g → y ≠ some g) : x = none ∨ x ≠ y := by
  cases x with
  | none => exact .inl rfl
  | some g => exact .inr (fun e => h g rfl e.symm)
theorem St.out {B0 : Nat} {w3 w w' : World} {vo vo' vm : Value} {O O' : List Int} {M : List Mem} (h : St B0 w3 w vo O vm M) (hG : Grow w vo.ownBlock w' vo' O') : St B0 w3 w' vo' O' vm M :=
  ⟨h.below.grown hG.kept h.size h.po, Nat.le_trans h.size hG.kept.size, hG.own, h.ownM.grown hG.kept (none_or fun g hg e => h.own.ne_ownM h.ownM e hg), fun g hg => by
    rcases hG.place with e | ⟨g', e, hge⟩
    · exact h.po g (by rw [← e]; exact hg)
    · rw [e] at hg; obtain rfl := Option.some.inj hg; exact Nat.le_trans h.size hge, h.pm⟩
theorem St.ms {B0 : Nat} {w3 w w' : World} {vo vm vm' : Value} {O : List Int} {M M' : List Mem} (h : St B0 w3 w vo O vm M) (own' : OwnM w' vm' M') (hg : w.grownBy w' vm.ownBlock) (hp : vm'.ownBlock = vm.ownBlock ∨ ∃ g, vm'.ownBlock = some g ∧ w.heap.size ≤ g) : St B0 w3 w' vo O vm' M' :=
  ⟨h.below.grown hg h.size h.pm, Nat.le_trans h.size hg.size, h.own.grown hg (none_or fun g hg' e => h.own.ne_ownM h.ownM hg' e), own', h.po, fun g hg' => by
    rcases hp with e | ⟨g', e, hge⟩
    · exact h.pm g (by rw [← e]; exact hg')
    · rw [e] at hg'; obtain rfl := Option.some.inj hg'; exact Nat.le_trans h.size hge⟩
theorem St.alloc {B0 : Nat} {w3 w : World} {vo vm : Value} {O : List Int} {M : List Mem} (h : St B0 w3 w vo O vm M) (o : Obj) : St B0 w3 (w.alloc o) vo O vm M :=
  h.grown (World.grownBy_alloc w o none) (fun g hg => nomatch hg) (none_or fun g _ e => nomatch e) (none_or fun g _ e => nomatch e)

/-- APPEND OF A SLICE OF BYTES, the value written out -/
theorem wp_app_is {w : World} {ops : Array Oper} {rest : List Oper} {o : Oper} {a : Act} {Q : Exit → Act → World → Prop} (hgd : o.guard = none) (s x : Operand)
    (ho : o.op = .call { callee := .builtin .append, args := #[s, x], argTypes := #[22, 22] }) {w0 : World} {r : Option Nat} {v : Value} {xs : List Int} (hs : a.eval s = v) (hG : Grow w0 r w v xs)
    {ad : Option Addr} {m c : Nat} (hx : a.eval x = .slice ad m c) (news : List Int) (hl : news.length = m) (hB : Bytes w ad news) (hnil : ad = none → m = 0 ∧ c = 0) (n' : Nat) (hn' : (xs ++ news).length = n') (hbd : n' ≤ 140737488355328)
    (h : ∀ a' c' w', Grow w0 r w' (.slice a' n' c') (xs ++ news) → wpList Try.prog ops Q rest (a.put o.dst (.slice a' n' c')) w') : wpList Try.prog ops Q (o :: rest) a w := by
  refine wp_app hgd s x ho hs hG hx news hl hB hnil (by rw [List.length_append] at hn'; omega) (fun v' w' hG' => ?_)
  obtain ⟨a', c', hv, _⟩ := hG'.own.shape
  subst hv
  subst hn'
  exact h a' c' w' hG'
theorem wp_app_string_is {w : World} {ops : Array Oper} {rest : List Oper} {o : Oper} {a : Act} {Q : Exit → Act → World → Prop} (hgd : o.guard = none) (s x : Operand)
    (ho : o.op = .call { callee := .builtin .append, args := #[s, x], argTypes := #[22, 9] }) {w0 : World} {r : Option Nat} {v : Value} {xs : List Int} (hs : a.eval s = v) (hG : Grow w0 r w v xs)
    (st : ByteArray) (hx : a.eval x = .string st) (n' : Nat) (hn' : (xs ++ strInts st).length = n') (hbd : n' ≤ 140737488355328)
    (h : ∀ a' c' w', Grow w0 r w' (.slice a' n' c') (xs ++ strInts st) → wpList Try.prog ops Q rest (a.put o.dst (.slice a' n' c')) w') : wpList Try.prog ops Q (o :: rest) a w := by
  refine wp_app_string hgd s x ho hs hG st hx (by rw [List.length_append, strInts_length] at hn'; omega) (fun v' w' hG' => ?_)
  obtain ⟨a', c', hv, _⟩ := hG'.own.shape
  subst hv
  subst hn'
  exact h a' c' w' hG'
/-- APPEND OF ONE MEMBER, the value written out -/
theorem wp_appM_is {w : World} {ops : Array Oper} {rest : List Oper} {o : Oper} {a : Act} {Q : Exit → Act → World → Prop} (hgd : o.guard = none) (s x : Operand)
    (ho : o.op = .call { callee := .builtin .append, args := #[s, x], argTypes := #[30, 30] }) {v : Value} {M : List Mem} (hs : a.eval s = v) (hO : OwnM w v M)
    {ad : Addr} (hx : a.eval x = .slice (some ad) 1 1) (m : Mem) (hc : ∀ j u, (cells4 [m])[j]? = some u → w.cell? (ad.add j) = some u) (n' : Nat) (hn' : M.length + 1 = n') (hbd : n' ≤ 1048576)
    (h : ∀ a' c' w', OwnM w' (.slice a' n' c') (M ++ [m]) → w.grownBy w' v.ownBlock → ((Value.slice a' n' c').ownBlock = v.ownBlock ∨ ∃ g, (Value.slice a' n' c').ownBlock = some g ∧ w.heap.size ≤ g) → wpList Try.prog ops Q rest (a.put o.dst (.slice a' n' c')) w') : wpList Try.prog ops Q (o :: rest) a w := by
  obtain ⟨i0, hi, hz0, hz1, hz2⟩ := info_parts Try.info37
  refine wpList_append_own_at _ hgd s x 30 ho 0 37 i0 (.agg #[.int .i64 0, .int .i64 0, .int .i64 0, .int .i64 0]) 4 32 Try.underlying30 hi hz0 hz1 hz2 rfl (by decide) v M.length (cells4 M) hs hO ad 1 1 (cells4 [m]) hx (by rw [cells4_length]; rfl) hc (cells4_one _) (by unfold maxLen; omega) (by omega) (Nat.zero_le _) ?_
  intro v' w' h1 h2 _ h4
  have hO' : OwnM w' v' (M ++ [m]) := by
    unfold OwnM
    rw [cells4_append, List.length_append]
    exact h1
  obtain ⟨a', c', hv, _⟩ := hO'.shape
  subst hv
  have e : (M ++ [m]).length = n' := by simp; omega
  rw [e] at hO' h4 ⊢
  refine h a' c' w' hO' h2 ?_
  rcases h4 with e | e
  · exact .inl e
  · exact .inr ⟨_, e, Nat.le_refl _⟩
theorem new_member (w : World) (m : Mem) : ∀ j u, (cells4 [m])[j]? = some u → (w.alloc (.cells #[.int .i64 m.1, .int .i64 m.2.1, .int .i64 m.2.2.1, .int .i64 m.2.2.2] 37)).cell? ((⟨w.heap.size, 0, none⟩ : Addr).add j) = some u := by
  intro j u hj
  rw [Addr.add_lit, Nat.zero_add, cell_of_row _ w.heap.size j _ 37 (0, 0) (heap_alloc_new w _)]
  simpa [cells4, cells1] using hj

/-! ### the keys that the two slices hold -/
theorem strInts_byt (s : ByteArray) : Byt (strInts s) := by
  intro c hc
  obtain ⟨b, _, rfl⟩ := List.mem_map.1 hc
  have := b.toNat_lt
  omega
theorem strInts_inj (s t : ByteArray) (h : strInts s = strInts t) : s = t := by
  unfold strInts at h
  have h1 : s.data.toList = t.data.toList := by
    refine List.map_inj_right (f := fun b : UInt8 => (b.toNat : Int)) (fun x y e => ?_) |>.1 h
    exact UInt8.toNat_inj.1 (by omega)
  cases s; cases t
  simp at h1
  simp [h1]

/-- the members from f on hold just the keys D, one behind the other -/
structure Holds (O : List Int) (M : List Mem) (f : Nat) (D : List ByteArray) : Prop where
  len : M.length = f + D.length
  within : Within O M f
  keys : keysFrom O M f D.length = D.map strInts

theorem keyAt_ext (O X : List Int) (M : List Mem) (f i : Nat) (hW : Within O M f) (h1 : f ≤ i) (h2 : i < M.length) : keyAt (O ++ X) M i = keyAt O M i := by
  obtain ⟨_, _, h3, h4⟩ := hW.nat i h1 h2
  unfold keyAt part
  rw [List.drop_append_of_le_length (by omega), List.take_append_of_le_length (by simp; omega)]
theorem Holds.ext {O : List Int} {M : List Mem} {f : Nat} {D : List ByteArray} (h : Holds O M f D) (X : List Int) : Holds (O ++ X) M f D := by
  refine ⟨h.len, fun i h1 h2 => ?_, ?_⟩
  · have := h.within i h1 h2
    rw [List.length_append]
    omega
  · rw [← h.keys]
    unfold keysFrom
    refine List.map_congr_left fun j hj => ?_
    exact keyAt_ext O X M f (f + j) h.within (by omega) (by have := h.len; have := List.mem_range.1 hj; omega)
theorem getD_append_left (M : List Mem) (m : Mem) (i : Nat) (h : i < M.length) : (M ++ [m]).getD i (0, 0, 0, 0) = M.getD i (0, 0, 0, 0) := by
  simp [List.getD, List.getElem?_append_left h]
theorem getD_append_last (M : List Mem) (m : Mem) : (M ++ [m]).getD M.length (0, 0, 0, 0) = m := by
  simp [List.getD]
theorem Holds.snoc {O : List Int} {M : List Mem} {f : Nat} {D : List ByteArray} (h : Holds O M f D) (s : ByteArray) (a d : Int) (k v : Nat) (hk : k ≤ v) (hv : v ≤ O.length) (hp : part O k v = strInts s) :
    Holds O (M ++ [(a, (k : Int), (v : Int), d)]) f (D ++ [s]) := by
  have hl := h.len
  refine ⟨by simp; omega, fun i h1 h2 => ?_, ?_⟩
  · by_cases hi : i < M.length
    · rw [getD_append_left _ _ _ hi]; exact h.within i h1 hi
    · have : i = M.length := by simp at h2; omega
      subst this
      rw [getD_append_last]
      simp only
      omega
  · rw [List.length_append, List.length_singleton, keysFrom_succ, List.map_append]
    congr 1
    · rw [← h.keys]
      unfold keysFrom
      refine List.map_congr_left fun j hj => ?_
      have hj' := List.mem_range.1 hj
      unfold keyAt Qxb6604022a.mk mv
      rw [getD_append_left _ _ _ (by omega)]
    · unfold keyAt Qxb6604022a.mk mv
      rw [← hl, getD_append_last]
      simp [hp]

theorem mem_ints (D : List ByteArray) (s : ByteArray) : strInts s ∈ D.map strInts ↔ s ∈ D := by
  constructor
  · intro h
    obtain ⟨t, ht, e⟩ := List.mem_map.1 h
    rw [← strInts_inj t s e]; exact ht
  · exact fun h => List.mem_map.2 ⟨s, h, rfl⟩

end Go.Proofs.Qxb6604022a
