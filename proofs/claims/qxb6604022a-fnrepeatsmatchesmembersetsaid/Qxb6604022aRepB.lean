/-
  repeats, no map and few members.
-/
import Derived.Test.Qxb6604022aRepA
import Derived.Deep.Cut
import Derived.Deep.CutRange
namespace Go.Proofs.Qxb6604022a
open Go.ChangeShapes Go.WideShapes Go.ChangeAt Go.RowKit
set_option linter.unusedVariables false

/-- a slice of bytes whose address is known wherever there is room -/
def Out (w : World) (a : Option Addr) (c : Nat) (O : List Int) : Prop :=
  (a = none ∧ O = [] ∧ c = 0) ∨ ∃ b off, a = some ⟨b, off, none⟩ ∧ O.length ≤ c ∧ Bytes w a O

theorem Out.bytes {w : World} {a : Option Addr} {c : Nat} {O : List Int} (h : Out w a c O) : Bytes w a O := by
  rcases h with ⟨_, rfl, _⟩ | ⟨_, _, _, _, h⟩
  · exact .inl rfl
  · exact h
theorem Out.le {w : World} {a : Option Addr} {c : Nat} {O : List Int} (h : Out w a c O) : O.length ≤ c := by
  rcases h with ⟨_, rfl, _⟩ | ⟨_, _, _, h, _⟩
  · simp
  · exact h
theorem Out.below {w w' : World} {a : Option Addr} {c : Nat} {O : List Int} (h : Out w a c O) (hb : Below w.heap.size w w') : Out w' a c O := by
  rcases h with h | ⟨b, off, h1, h2, h3⟩
  · exact .inl h
  · exact .inr ⟨b, off, h1, h2, h3.below hb⟩
theorem Mems.below {w w' : World} {a : Option Addr} {M : List (Int × Int × Int × Int)} (h : Mems w a M) (hb : Below w.heap.size w w') : Mems w' a M := by
  rcases h with h | ⟨b, off, ha, hc⟩
  · exact .inl h
  · refine .inr ⟨b, off, ha, fun i hi => ?_⟩
    obtain ⟨h0, h1, h2, h3⟩ := hc i hi
    have hlt : b < w.heap.size := World.block_lt_of_cell? w _ h0
    exact ⟨by rw [hb.cell hlt]; exact h0, by rw [hb.cell hlt]; exact h1, by rw [hb.cell hlt]; exact h2, by rw [hb.cell hlt]; exact h3⟩

theorem Bytes.drewN {w : World} {a : Option Addr} {z : List Int} (h : Bytes w a z) (n : Nat) : Bytes (w.drewN n) a z := h.below (below_drewN (Below.refl _ _) n)

/-- the part of O from k to v -/
def part (O : List Int) (k v : Nat) : List Int := (O.drop k).take (v - k)
theorem part_length (O : List Int) (k v : Nat) (h : k ≤ v) (hv : v ≤ O.length) : (part O k v).length = v - k := by simp [part]; omega
theorem part_byt (O : List Int) (k v : Nat) (h : Byt O) : Byt (part O k v) := fun c hc => h c (List.mem_of_mem_drop (List.mem_of_mem_take hc))
theorem drop_byt (O : List Int) (k : Nat) (h : Byt O) : Byt (O.drop k) := fun c hc => h c (List.mem_of_mem_drop hc)

/-- where the key of the i-th member lies -/
def mk (M : List (Int × Int × Int × Int)) (i : Nat) : Nat := (M.getD i (0, 0, 0, 0)).2.1.toNat
def mv (M : List (Int × Int × Int × Int)) (i : Nat) : Nat := (M.getD i (0, 0, 0, 0)).2.2.1.toNat
/-- the key of the i-th member -/
def keyAt (O : List Int) (M : List (Int × Int × Int × Int)) (i : Nat) : List Int := part O (mk M i) (mv M i)
/-- every member from f on lies within O -/
def Within (O : List Int) (M : List (Int × Int × Int × Int)) (f : Nat) : Prop :=
  ∀ i, f ≤ i → i < M.length → 0 ≤ (M.getD i (0, 0, 0, 0)).2.1 ∧ (M.getD i (0, 0, 0, 0)).2.1 ≤ (M.getD i (0, 0, 0, 0)).2.2.1 ∧ (M.getD i (0, 0, 0, 0)).2.2.1 ≤ (O.length : Int)
theorem Within.nat {O : List Int} {M : List (Int × Int × Int × Int)} {f : Nat} (h : Within O M f) (i : Nat) (h1 : f ≤ i) (h2 : i < M.length) :
    (M.getD i (0, 0, 0, 0)).2.1 = (mk M i : Int) ∧ (M.getD i (0, 0, 0, 0)).2.2.1 = (mv M i : Int) ∧ mk M i ≤ mv M i ∧ mv M i ≤ O.length := by
  have := h i h1 h2
  unfold mk mv
  omega

theorem Mems.drop {w : World} {b off : Nat} {M : List (Int × Int × Int × Int)} (h : Mems w (some ⟨b, off, none⟩) M) (f : Nat) : Mems w (some ⟨b, off + f * 4, none⟩) (M.drop f) := by
  rcases h with h | ⟨b', off', ha, hc⟩
  · subst h; exact .inl (by simp)
  · obtain ⟨rfl, rfl⟩ : b = b' ∧ off = off' := by simpa using ha
    refine .inr ⟨b, off + f * 4, rfl, fun i hi => ?_⟩
    have := hc (f + i) (by simp at hi; omega)
    rw [show off + f * 4 + i * 4 = off + (f + i) * 4 by omega, show (M.drop f).getD i (0, 0, 0, 0) = M.getD (f + i) (0, 0, 0, 0) by simp [List.getD]]
    exact this
theorem Mems.open {w : World} {a : Option Addr} {M : List (Int × Int × Int × Int)} (h : Mems w a M) (hM : 0 < M.length) : ∃ b off, a = some ⟨b, off, none⟩ := by
  rcases h with rfl | ⟨b, off, h, _⟩
  · simp at hM
  · exact ⟨b, off, h⟩

set_option maxRecDepth 100000 in
set_option maxHeartbeats 2000000 in
theorem repeats_few (ao : Option Addr) (O : List Int) (no co : Nat) (am : Option Addr) (M : List (Int × Int × Int × Int)) (nm PB SB f k : Nat) (w : World)
    (hno : Hid (O.length = no)) (hnm : Hid (M.length = nm)) (hO : Out w ao co O) (hM : Mems w am M) (hby : Byt O) (hW : Within O M f)
    (c2 : w.cell? ⟨PB, 2, none⟩ = some (.slice ao no co)) (c3 : w.cell? ⟨PB, 3, none⟩ = some (.slice am nm nm)) (cs : w.cell? ⟨SB, 0, none⟩ = some (.map none))
    (hk : k ≤ no) (hf : f ≤ nm) (h16 : nm - f < 16) (hco : co ≤ 9223372036854775807) (hnol : no ≤ 1073741824) (hnml : nm ≤ 1048576) (r : Bool)
    (hr : Hid (r = true ↔ ∃ i, f ≤ i ∧ i < nm ∧ keyAt O M i = O.drop k)) :
    Calls Try.prog 25 #[.pointer (some ⟨PB, 0, none⟩), .int .i64 f, .int .i64 k, .pointer (some ⟨SB, 0, none⟩)] w fun e w' => e = .returned (.bool r) ∧ Below w.heap.size w w' := by
  have q35 : ∀ (w : World) (r : Option Nat), (binOp .eql 35 (.map r) (.map none)).run Try.prog w = .ok (.bool r.isNone) w := fun w r => run_eql_map_nil w _ _ _ r Try.underlying35
  have HO := hid hO
  have HM := hid hM
  have HBY := hid hby
  have HW := hid hW
  have hnc : no ≤ co := by have := hO.le; rw [hno.out] at this; exact this
  clear hO hM hby hW
  go_enter Try.func25, Try.ntmps25
  go_upto_region 1 with fail
  go_cut [9] from 17 (fun v wc => ∃ an cn, v = .slice an (no - k) cn ∧ Bytes w an (O.drop k) ∧ w = wc)
  case first =>
    by_cases hkc : k = co
    · have hkn : no = k := by omega
      have HE : Hid (Bytes w ao (O.drop k)) := .inl (List.drop_eq_nil_of_le (by rw [hno.out]; omega))
      have HKC := hid hkc
      clear hkn
      subst hkc
      go_wp2
      go_meet
      case rel => exact ⟨ao, _, by first | rfl | (rw [show no - k = 0 by omega]), HE.out, rfl⟩
    · rcases HO.out with ⟨_, h0, h1⟩ | ⟨b, off, rfl, _, hB⟩
      · exact absurd (by have := hno.out; rw [h0] at this; simp at this; omega) hkc
      · have HE : Hid (Bytes w (some ⟨b, off + k, none⟩) (O.drop k)) := by
          have := hB.part k (no - k)
          rwa [List.take_of_length_le (by have := hno.out; simp; omega)] at this
        have hkc' : ¬ co = k := fun h => hkc h.symm
        clear hB hkc
        go_wp2
        go_meet
        case rel => exact ⟨_, _, rfl, HE.out, rfl⟩
  case rest =>
    obtain ⟨an, cn, rfl, hN, rfl⟩ := hcut
    have HN := hid hN
    clear hN
    go_upto_region 2 with fail
    go_cut [10] from 17 (fun v wc => ∃ am' cm', v = .slice am' (nm - f) cm' ∧ Mems w am' (M.drop f) ∧ w = wc)
    case first =>
      by_cases hfn : f = nm
      · have HE : Hid (Mems w am (M.drop f)) := .inl (List.drop_eq_nil_of_le (by rw [hnm.out]; omega))
        subst hfn
        go_wp2
        go_meet
        case rel => exact ⟨am, _, by first | rfl | (rw [show f - f = 0 by omega]), HE.out, rfl⟩
      · obtain ⟨b, off, rfl⟩ := HM.out.open (by have := hnm.out; omega)
        have HE := hid (HM.out.drop f)
        have hfn' : ¬ nm = f := fun h => hfn h.symm
        clear hfn
        go_wp2
        go_meet
        case rel => exact ⟨_, _, rfl, HE.out, rfl⟩
    case rest =>
      obtain ⟨am', cm', rfl, hMd, rfl⟩ := hcut
      have HMd := hid hMd
      clear hMd
      obtain ⟨L, hL⟩ : ∃ L, L = nm - f := ⟨_, rfl⟩
      rw [← hL]
      rw [← hL] at h16
      have HL := hid hL
      have hL1 : L ≤ 1048576 := by omega
      obtain ⟨nn, hnn⟩ : ∃ nn, nn = no - k := ⟨_, rfl⟩
      rw [← hnn]
      have HNN : Hid ((O.drop k).length = nn) := by rw [List.length_drop, hno.out]; exact hnn.symm
      clear hL hnn
      go_wp2
      go_loopw [40] (fun i wr => ∃ j : Nat, j ≤ L ∧ i = .int .i64 j ∧ Below w.heap.size w wr ∧ ∀ i', f ≤ i' → i' < f + j → keyAt O M i' ≠ O.drop k) (fun i _ => L - (intOf i).toNat)
      case atStart => exact ⟨0, Nat.zero_le _, rfl, Below.refl _ _, fun i' h1 h2 => absurd h2 (by omega)⟩
      case round =>
        obtain ⟨j, hj, rfl, hB, hne⟩ := hrel
        have HNE := hid hne
        have HB := hid hB
        have hz := hB.size
        have HPB := hid (show PB < w.heap.size from World.block_lt_of_cell? w _ c2)
        have c2r : wr.cell? ⟨PB, 2, none⟩ = some (.slice ao no co) := by rw [hB.cell (p := ⟨PB, 2, none⟩) HPB.out]; exact c2
        have hPBr : PB < wr.heap.size := Nat.lt_of_lt_of_le HPB.out hz
        clear hne hB
        by_cases hlt : j < L
        · have hfl : f + j < M.length := by have := hnm.out; have := HL.out; omega
          obtain ⟨e1, e2, e3, e4⟩ := HW.out.nat (f + j) (by omega) hfl
          have hm := HMd.out.below HB.out
          obtain ⟨bm, om, rfl, hc⟩ : ∃ b off, am' = some ⟨b, off, none⟩ ∧ ∀ i, i < (M.drop f).length →
    wr.cell? ⟨b, off + i * 4, none⟩ = some (.int .i64 ((M.drop f).getD i (0, 0, 0, 0)).1) ∧ wr.cell? ⟨b, off + i * 4 + 1, none⟩ = some (.int .i64 ((M.drop f).getD i (0, 0, 0, 0)).2.1) ∧
    wr.cell? ⟨b, off + i * 4 + 2, none⟩ = some (.int .i64 ((M.drop f).getD i (0, 0, 0, 0)).2.2.1) ∧ wr.cell? ⟨b, off + i * 4 + 3, none⟩ = some (.int .i64 ((M.drop f).getD i (0, 0, 0, 0)).2.2.2) := by
            rcases hm with h | h
            · have := congrArg List.length h; simp at this; omega
            · exact h
          obtain ⟨d0, d1, d2, d3⟩ := hc j (by simp; omega)
          have em : (M.drop f).getD j (0, 0, 0, 0) = M.getD (f + j) (0, 0, 0, 0) := by simp [List.getD]
          rw [em] at d0 d1 d2 d3
          rw [e1] at d1
          rw [e2] at d2
          have HK : Hid (keyAt O M (f + j) = part O (mk M (f + j)) (mv M (f + j))) := hid rfl
          generalize mk M (f + j) = kj at *
          generalize mv M (f + j) = vj at *
          generalize (M.getD (f + j) (0, 0, 0, 0)).1 = x0 at *
          generalize (M.getD (f + j) (0, 0, 0, 0)).2.2.2 = x3 at *
          have e4' : vj ≤ no := by have := hno.out; omega
          clear hc hm em e1 e2 hfl
          have hlti : (j : Int) < (L : Int) := by omega
          have HNB : ∀ (X : Obj) (n : Nat), Hid (Bytes ((wr.alloc X).drewN n) an (O.drop k)) := fun X n => (((HN.out.below HB.out).alloc X).drewN n)
          have HBF : ∀ (X : Obj) (n : Nat), Hid (Below w.heap.size w ((wr.alloc X).drewN n)) := fun X n => below_drewN (HB.out.alloc hz X) n
          have HPY := hid (part_byt O kj vj HBY.out)
          have HDY := hid (drop_byt O k HBY.out)
          have HPL : Hid ((part O kj vj).length = vj - kj) := part_length O kj vj e3 e4
          by_cases hkc : kj = co
          · have hvk : vj = kj := by omega
            have HPL0 : Hid ((part O kj vj).length = 0) := HPL.out.trans (by omega)
            have HXB : ∀ (X : Obj) (n : Nat), Hid (Bytes ((wr.alloc X).drewN n) ao (part O kj vj)) := fun X n => .inl (List.eq_nil_of_length_eq_zero HPL0.out)
            clear HPL
            have HPL := HPL0
            clear HPL0
            have hvk' : kj = vj := hvk.symm
            clear hvk
            subst hvk'
            subst hkc
            by_cases heq : part O kj kj = O.drop k
            · have HEQ : Hid (decide (part O kj kj = O.drop k) = true) := decide_eq_true heq
              have HR : Hid (r = true) := hr.out.2 ⟨f + j, by omega, by have := HL.out; omega, by rw [HK.out]; exact heq⟩
              clear heq
              go_wp2
              go_quiet ((go_at_call 27; exact Calls.quiet_of_same (bytesEqual_any _ _ (part O kj kj) (O.drop k) _ _ _ _ _ HPL HNN (by exact HXB _ _) (by exact HNB _ _) HPY.out HDY.out true HEQ)))
              go_wp2
              go_ret
              exact ⟨by rw [HR.out]; rfl, HBF _ _⟩
            · have HEQ : Hid (decide (part O kj kj = O.drop k) = false) := decide_eq_false heq
              have HNX : Hid (∀ i', f ≤ i' → i' < f + (j + 1) → keyAt O M i' ≠ O.drop k) := fun i' h1 h2 => by
                by_cases hij : i' = f + j
                · rw [hij, HK.out]; exact heq
                · exact HNE.out i' h1 (by omega)
              clear heq
              go_wp2
              go_quiet ((go_at_call 27; exact Calls.quiet_of_same (bytesEqual_any _ _ (part O kj kj) (O.drop k) _ _ _ _ _ HPL HNN (by exact HXB _ _) (by exact HNB _ _) HPY.out HDY.out false HEQ)))
              go_wp2
              go_roundw
              case rel => exact ⟨j + 1, by omega, by go_num, HBF _ _, HNX.out⟩
              case measure => simp [intOf]; omega
          · have hkc' : ¬ co = kj := fun h => hkc h.symm
            obtain ⟨bo, oo, rfl, _, hBo⟩ : ∃ b off, ao = some ⟨b, off, none⟩ ∧ O.length ≤ co ∧ Bytes w ao O := by
              rcases HO.out with ⟨_, h0, h1⟩ | h
              · exact absurd (by have := hno.out; rw [h0] at this; simp at this; omega) hkc
              · exact h
            have HXB : ∀ (X : Obj) (n : Nat), Hid (Bytes ((wr.alloc X).drewN n) (some ⟨bo, oo + kj, none⟩) (part O kj vj)) := fun X n => ((((hBo.below HB.out).part kj (vj - kj)).alloc X).drewN n)
            clear hkc hBo
            by_cases heq : part O kj vj = O.drop k
            · have HEQ : Hid (decide (part O kj vj = O.drop k) = true) := decide_eq_true heq
              have HR : Hid (r = true) := hr.out.2 ⟨f + j, by omega, by have := HL.out; omega, by rw [HK.out]; exact heq⟩
              clear heq
              go_wp2
              go_quiet ((go_at_call 27; exact Calls.quiet_of_same (bytesEqual_any _ _ (part O kj vj) (O.drop k) _ _ _ _ _ HPL HNN (by exact HXB _ _) (by exact HNB _ _) HPY.out HDY.out true HEQ)))
              go_wp2
              go_ret
              exact ⟨by rw [HR.out]; rfl, HBF _ _⟩
            · have HEQ : Hid (decide (part O kj vj = O.drop k) = false) := decide_eq_false heq
              have HNX : Hid (∀ i', f ≤ i' → i' < f + (j + 1) → keyAt O M i' ≠ O.drop k) := fun i' h1 h2 => by
                by_cases hij : i' = f + j
                · rw [hij, HK.out]; exact heq
                · exact HNE.out i' h1 (by omega)
              clear heq
              go_wp2
              go_quiet ((go_at_call 27; exact Calls.quiet_of_same (bytesEqual_any _ _ (part O kj vj) (O.drop k) _ _ _ _ _ HPL HNN (by exact HXB _ _) (by exact HNB _ _) HPY.out HDY.out false HEQ)))
              go_wp2
              go_roundw
              case rel => exact ⟨j + 1, by omega, by go_num, HBF _ _, HNX.out⟩
              case measure => simp [intOf]; omega
        · have HR : Hid (r = false) := by
            cases hr' : r with
            | false => exact hid rfl
            | true =>
              obtain ⟨i, h1, h2, h3⟩ := hr.out.1 hr'
              exact absurd h3 (HNE.out i h1 (by have := HL.out; omega))
          go_wp2
          go_ret
          exact ⟨by rw [HR.out]; rfl, HB.out⟩

end Go.Proofs.Qxb6604022a
