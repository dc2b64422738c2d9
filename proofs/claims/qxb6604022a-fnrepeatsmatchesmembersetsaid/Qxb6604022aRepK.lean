/-
  THE MEMBER SET's HELPERS: the members' clone, the bytes' clone, the comparison as a quiet call, the bounds.
-/
import Derived.Test.Qxb6604022aRepI
import Derived.Test.Qxb6604022aWalkA
namespace Go.Proofs.Qxb6604022a
open Go.ChangeShapes Go.WideShapes Go.ChangeAt Go.RowKit
set_option linter.unusedVariables false

theorem Try.size37 : (Try.prog.info? 37).map (·.size) = some 4 := by kernel_rfl

theorem run_copy4 (w : World) (ty : TypeId) (g n dCap : Nat) (a : Addr) (sCap : Nat) (cur : Array Value) (cs : List Value) (hg : w.heap[g]? = some (.cells cur 37 (0, 0))) (hn : cs.length = n * 4) (hc : cur.size = n * 4)
    (hsrc : ∀ j v, cs[j]? = some v → w.cell? (a.add j) = some v) (h1 : ∀ v ∈ cs, v.oneCell' = true) :
    (Builtin.copy_ #[30, 30] ty #[.slice (some ⟨g, 0, none⟩) n dCap, .slice (some a) n sCap]).run Try.prog w = .ok (goInt n) (w.setRow g cs.toArray) := by
  have hl := run_loadCells_list (P := Try.prog) w a cs hsrc
  have hst := run_storeCells_at Try.prog g 0 37 cs 0 cur w hg (by simp; omega) h1
  have hdrop : cur.toList.drop (0 + cs.length) = [] := List.drop_eq_nil_of_le (by simp; omega)
  cases hq : Try.prog.info? 37 with
  | none => have := Try.size37; simp [hq] at this
  | some i =>
    have hi : i.size = 4 := by have := Try.size37; simpa [hq] using this
    rw [hn] at hl
    simp only [Nat.add_zero] at hst
    simp [Builtin.copy_, run_underlying Try.underlying30, Builtin.lenOf, Builtin.firstCells, sizeOf, typeInfo, hq, hi, hl]
    rw [hst, hdrop]
    simp

theorem wpList_copy4 {w : World} {ops : Array Oper} {rest : List Oper} {o : Oper} {a : Act} {Q : Exit → Act → World → Prop} (hgd : o.guard = none) (d s : Operand)
    (ho : o.op = .call { callee := .builtin .copy, args := #[d, s], argTypes := #[30, 30] }) (g n dCap : Nat) (ad : Addr) (sCap : Nat) (hd : a.eval d = .slice (some ⟨g, 0, none⟩) n dCap) (hs : a.eval s = .slice (some ad) n sCap)
    (cur : Array Value) (hg : w.heap[g]? = some (.cells cur 37 (0, 0))) (cs : List Value) (hn : cs.length = n * 4) (hc : cur.size = n * 4)
    (hsrc : ∀ j v, cs[j]? = some v → w.cell? (ad.add j) = some v) (h1 : ∀ v ∈ cs, v.oneCell' = true) (w0 : World) (B : Nat) (hb : Below B w0 w) (hBg : B ≤ g)
    (h : ∀ w', w'.heap[g]? = some (.cells cs.toArray 37 (0, 0)) → Below B w0 w' → wpList Try.prog ops Q rest (a.put o.dst (goInt n)) w') : wpList Try.prog ops Q (o :: rest) a w := by
  refine wpList_plain hgd fun K hK => ?_
  have hrun := run_copy4 w o.type g n dCap ad sCap cur cs hg hn hc hsrc h1
  unfold Oper.wp
  simp [execOp, ho, resolve, invoke, builtin, hd, hs, hrun, Result.andThen]
  exact hK _ _ (h _ (setRow_heap w g _ _ 37 _ hg) (below_setRow hb hBg _))

theorem mems_cells {w : World} {x : Addr} {M : List Mem} (h : Mems w (some x) M) : ∀ j v, (cells4 M)[j]? = some v → w.cell? (x.add j) = some v := by
  intro j v hj
  have hlt : j < (cells4 M).length := (List.getElem?_eq_some_iff.1 hj).1
  rw [cells4_length] at hlt
  rcases h with rfl | ⟨b, off, hx, hc⟩
  · simp at hlt
  · obtain rfl := Option.some.inj hx
    obtain ⟨i, c, hc4, rfl⟩ : ∃ i c, c < 4 ∧ j = i * 4 + c := ⟨j / 4, j % 4, by omega, by omega⟩
    obtain ⟨h0, h1, h2, h3⟩ := hc i (by omega)
    have hk := cells4_at M i c (by omega) hc4
    rw [hj] at hk
    rw [Addr.add_lit]
    have hm : c = 0 ∨ c = 1 ∨ c = 2 ∨ c = 3 := by omega
    rcases hm with rfl | rfl | rfl | rfl
    · obtain rfl : v = _ := by simpa [cells1] using hk
      exact h0
    · obtain rfl : v = _ := by simpa [cells1] using hk
      rw [← Nat.add_assoc]; exact h1
    · obtain rfl : v = _ := by simpa [cells1] using hk
      rw [← Nat.add_assoc]; exact h2
    · obtain rfl : v = _ := by simpa [cells1] using hk
      rw [← Nat.add_assoc]; exact h3
theorem ownM_of_row (w : World) (g : Nat) (M : List Mem) (hm : M.length ≤ maxLen) (h : w.heap[g]? = some (.cells (cells4 M).toArray 37 (0, 0))) : OwnM w (.slice (some ⟨g, 0, none⟩) M.length M.length) M :=
  ⟨cells4_length M, .inr ⟨g, M.length, (cells4 M).toArray, rfl, Nat.zero_le _, h, Nat.le_refl _, hm, by simp [cells4_length], by
    exact List.take_of_length_le (by simp [cells4_length])⟩⟩
theorem made_row37 {w1 : World} {base g n : Nat} {xs : List Value} (h : w1.ownsRow base 37 4 (.slice (some ⟨g, 0, none⟩) n n) n xs) : ∃ cur : Array Value, Hid (w1.heap[g]? = some (.cells cur 37 (0, 0))) ∧ Hid (cur.size = n * 4) := by
  rcases h.2 with ⟨h, _⟩ | ⟨g', cap, cur, hv, _, hg, _, _, hs, _⟩
  · simp at h
  · simp at hv
    obtain ⟨rfl, rfl⟩ := hv
    exact ⟨cur, hg, hs⟩
theorem Mems.grown0 {w w' : World} {a : Option Addr} {M : List Mem} (h : Mems w a M) (hg : w.grownBy w' none) : Mems w' a M := h.grown hg (fun x _ e => nomatch e)

/-- what the members' clone leaves -/
def MCloned (M : List Mem) (n : Nat) (w : World) (e : Ending) (w' : World) : Prop :=
  ∃ a', e = .returned (.slice a' n n) ∧ Mems w' a' M ∧ Below w.heap.size w w'

set_option maxHeartbeats 1000000 in
theorem mclone_is (a : Option Addr) (M : List Mem) (n cap : Nat) (w : World) (hn : Hid (M.length = n)) (hr : Mems w a M) (hl : n ≤ 1048576) (hnil : a = none → M = []) :
    Calls Try.prog 15 #[.slice a n cap] w fun e w' => MCloned M n w e w' := by
  have q30 : ∀ (w : World) (a : Option Addr) (n c n' c' : Nat), (binOp .eql 30 (.slice a n c) (.slice none n' c')).run Try.prog w = .ok (.bool a.isNone) w := fun w a n c n' c' => Lib.run_eql_slice_nil w _ _ a n c n' c' Try.underlying30
  cases a with
  | none =>
    obtain rfl := hnil rfl
    obtain rfl : 0 = n := hn.out
    go_enter Try.func15, Try.ntmps15
    go_wp2
    go_ret
    exact ⟨none, rfl, .inl rfl, Below.refl _ _⟩
  | some x =>
    obtain ⟨i0, hi, hz0, hz1, hz2⟩ := info_parts Try.info37
    have HI : Hid (Try.prog.info? 37 = some i0) := hi
    have HB : Hid (i0.bytes = 32) := hz2
    have HZ : Hid (i0.zero = some (.agg #[.int .i64 0, .int .i64 0, .int .i64 0, .int .i64 0])) := hz0
    have HS : Hid (i0.size = 4) := hz1
    clear hi hz0 hz1 hz2
    have HL : Hid ((cells4 M).length = n * 4) := by rw [cells4_length, hn.out]; exact hid rfl
    have HR : Hid (Mems w (some x) M) := hr
    clear hr
    go_enter Try.func15, Try.ntmps15
    go_wp2_with (first
      | (at_make; refine wpList_make_full _ rfl _ _ 30 rfl w.heap.size 37 i0 (.agg #[.int .i64 0, .int .i64 0, .int .i64 0, .int .i64 0]) 4 Try.underlying30 HI.out HZ.out HS.out _ _ _ _ n rfl rfl rfl rfl (by rw [HB.out]; omega) (by unfold maxLen; omega) (Nat.le_refl _) ?_; intro w1 hown hgrow; obtain ⟨cur, HG, HC⟩ := made_row37 hown)
      | ((refine wpList_copy4 rfl (.tmp 9) (.tmp 10) rfl w.heap.size n n x cap rfl rfl cur HG.out (cells4 M) HL.out HC.out (mems_cells (HR.out.grown0 hgrow)) (cells4_one _) w w.heap.size ((Below.refl _ _).grown hgrow (Nat.le_refl _) (by simp)) (Nat.le_refl _) ?_); intro w2 hg2 hB2))
    go_ret
    have ho := ownM_of_row w2 w.heap.size M (by rw [hn.out]; unfold maxLen; omega) hg2
    obtain ⟨a', c', hv, hM2⟩ := ho.shape
    obtain ⟨rfl, _⟩ : some ⟨w.heap.size, 0, none⟩ = a' ∧ _ := by simpa using hv
    exact ⟨_, rfl, hM2, hB2⟩

/-- the bytes' clone, its value written out -/
theorem clone_out (a : Option Addr) (z : List Int) (n cap : Nat) (w : World) (hn : Hid (z.length = n)) (hr : Bytes w a z) (hl : n ≤ 1048576) (hnil : a = none → z = []) :
    Calls Try.prog 8 #[.slice a n cap] w fun e w' => ∃ a' c', e = .returned (.slice a' n c') ∧ Out w' a' c' z ∧ c' ≤ 9223372036854775807 ∧ (∀ x, a' = some x → x.block < w'.heap.size) ∧ Below w.heap.size w w' := by
  refine (clone_any a z n cap w hn hr hl hnil).mono ?_
  rintro e w' ⟨v', rfl, ho, _, hb⟩
  have hcm : ∀ a' c', v' = .slice a' z.length c' → c' ≤ 9223372036854775807 := by
    intro a' c' hv
    rcases ho.2 with ⟨h, _⟩ | ⟨g, cap, cur, h, _, _, _, hm, _⟩
    · rw [hv] at h; simp only [Value.slice.injEq] at h; obtain ⟨_, _, h⟩ := h; omega
    · rw [hv] at h; simp only [Value.slice.injEq] at h; obtain ⟨_, _, h⟩ := h; unfold maxLen at hm; omega
  obtain ⟨a', c', hv, hle, hbytes, hnil', hblk⟩ := ho.shape
  have hc := hcm a' c' hv
  subst hv
  refine ⟨a', c', by rw [hn.out], ?_, hc, fun x hx => (hblk x hx).2.1, hb⟩
  cases a' with
  | none => obtain ⟨h1, h2⟩ := hnil' rfl; exact .inl ⟨rfl, h1, h2⟩
  | some x =>
    obtain ⟨_, _, h3⟩ := hblk x rfl
    rw [h3]
    exact .inr ⟨x.block, 0, rfl, hle, by rw [← h3]; exact hbytes⟩

/-- the comparison, as a call that only reads -/
def QCompared (r : Bool) (w : World) (e : Ending) (w' : World) : Prop := e = .returned (.bool r) ∧ ∃ n, w' = w.drewN n

set_option maxHeartbeats 2000000 in
theorem equal_q (a b : Option Addr) (x y : List Int) (n m ca cb : Nat) (w : World) (hn : Hid (x.length = n)) (hm : Hid (y.length = m)) (ha : Bytes w a x) (hb : Bytes w b y) (hl : n ≤ 1073741824) (hl2 : m ≤ 1073741824) (r : Bool) (hr : Hid (r = true ↔ x = y)) :
    Calls Try.prog 11 #[.slice a n ca, .slice b m cb] w fun e w' => QCompared r w e w' := by
  by_cases hnm : n = m
  · subst hnm
    have HA := hid ha
    have HB := hid hb
    clear ha hb
    go_enter Try.func11, Try.ntmps11
    go_wp2
    go_loopw [5] (fun v wr => ∃ k nd : Nat, k ≤ n ∧ v = .int .i64 k ∧ x.take k = y.take k ∧ wr = w.drewN nd) (fun v _ => n - (intOf v).toNat)
    case atStart => exact ⟨0, 0, Nat.zero_le _, rfl, by simp, rfl⟩
    case round =>
      obtain ⟨k, nd, hk, rfl, ht, hwr⟩ := hrel
      have HT := hid ht
      have HWR := hid hwr
      have HBL : Hid (Below w.heap.size w wr) := by rw [hwr]; exact below_drewN (Below.refl _ _) nd
      clear ht hwr
      by_cases hlt : k < n
      · obtain ⟨b1, o1, rfl, c1⟩ := (HA.out.below HBL.out).open (by have := hn.out; omega)
        obtain ⟨b2, o2, rfl, c2⟩ := (HB.out.below HBL.out).open (by have := hm.out; omega)
        have d1 := c1 k (by have := hn.out; omega)
        have d2 := c2 k (by have := hm.out; omega)
        clear c1 c2
        generalize hp : x.getD k 0 = p at d1
        generalize hq : y.getD k 0 = q at d2
        have HP := hid hp
        have HQ := hid hq
        clear hp hq
        have hlti : (k : Int) < (n : Int) := by omega
        by_cases hpq : p = q
        · subst hpq
          have HS : Hid (x.take (k + 1) = y.take (k + 1)) := take_eq_snoc x y k (by have := hn.out; omega) (by have := hm.out; omega) HT.out (by rw [HP.out, HQ.out])
          go_wp2
          go_quiet (fail)
          go_wp2
          go_roundw
          case rel => exact ⟨k + 1, nd + _, by omega, by go_num, HS.out, by rw [HWR.out, World.drewN_drewN]⟩
          case measure => simp [intOf]; omega
        · have hne : (p != q) = true := by simpa using hpq
          have HX : Hid (r = false) := by
            cases hrr : r with
            | false => exact hid rfl
            | true =>
              have e := hr.out.1 hrr
              rw [e, HQ.out] at HP
              exact absurd HP.out.symm hpq
          go_wp2
          go_quiet (fail)
          go_wp2
          go_ret
          exact ⟨by rw [HX.out]; rfl, nd + _, by rw [HWR.out, World.drewN_drewN]⟩
      · have HX : Hid (r = true) := hr.out.2 (by
          have h1 : x.take k = x := List.take_of_length_le (by have := hn.out; omega)
          have h2 : y.take k = y := List.take_of_length_le (by have := hm.out; omega)
          have := HT.out
          rw [h1, h2] at this
          exact this)
        go_wp2
        go_ret
        exact ⟨by rw [HX.out]; rfl, nd, HWR.out⟩
  · have HX : Hid (r = false) := by
      cases hrr : r with
      | false => exact hid rfl
      | true =>
        have e := hr.out.1 hrr
        have h1 := hn.out
        have h2 := hm.out
        rw [e] at h1
        exact absurd (h1.symm.trans h2) hnm
    go_enter Try.func11, Try.ntmps11
    go_wp2
    go_ret
    exact ⟨by rw [HX.out]; rfl, 0, rfl⟩

theorem zz14_any (a b : Option Addr) (n m ca cb : Nat) (f k : Int) (s : Bool) (w : World) (hn : n ≤ 9223372036854775807) (hm : m ≤ 9223372036854775807) :
    Calls Try.prog 14 #[.slice a n ca, .slice b m cb, .int .i64 f, .int .i64 k, .bool s] w fun e w' => Bounded (n + m) w e w' := by
  by_cases h1 : 1048576 < n
  · go_enter Try.func14, Try.ntmps14
    go_wp2
    go_ret
    exact ⟨false, rfl, rfl, by simp⟩
  by_cases h2 : 1048576 < m
  · go_enter Try.func14, Try.ntmps14
    go_wp2
    go_ret
    exact ⟨false, rfl, rfl, by simp⟩
  by_cases h3 : 1048576 < n + m
  · go_enter Try.func14, Try.ntmps14
    go_wp2
    go_ret
    exact ⟨false, rfl, rfl, by simp⟩
  · go_enter Try.func14, Try.ntmps14
    go_wp2
    go_ret
    exact ⟨true, rfl, rfl, fun _ => by omega⟩

end Go.Proofs.Qxb6604022a
