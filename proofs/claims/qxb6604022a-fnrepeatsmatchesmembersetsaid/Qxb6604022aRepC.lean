/-
  repeats, with a map that is there.
-/
import Derived.Test.Qxb6604022aRepB
import Derived.RegionTactic
import Derived.BigRegion
import Derived.Outline
namespace Go.Proofs.Qxb6604022a
open Go.ChangeShapes Go.WideShapes Go.ChangeAt Go.RowKit
open Go.WideMaps (keyOf_string_mk)
open Go.Maps (string_keyed)
set_option linter.unusedVariables false

/-- a key, as the map reads it -/
def lit (z : List Int) : Lit := .string (strOfNums z).data.toList
theorem law9 : Maps.Keyed Try.prog 9 := string_keyed Try.underlying9
theorem zero36 (w : World) : (zeroValue 36).run Try.prog w = .ok (.agg #[]) w := by kernel_rfl
/-- block B is a set of keys: just those of A -/
def MapIs (w : World) (B n : Nat) (A : List (List Int)) : Prop := w.ownsMap Try.prog 9 (unitElem (H := Unit)) B n (Maps.setOf (.agg []) (A.map lit))

theorem key_of (z : List Int) (h : z.length ≤ 1073741824) : keyOf Try.prog 9 (.string (strOfNums z)) = some (lit z) :=
  keyOf_string_mk Try.underlying9 (by rw [strOfNums_size]; unfold maxLen; omega)

theorem run_look (w : World) (B n : Nat) (A : List (List Int)) (h : MapIs w B n A) (N : List Int) (hl : N.length ≤ 1073741824) :
    (Instr.lookup 35 (.map (some B)) (.string (strOfNums N)) true).run Try.prog w = .ok (.tuple #[.agg #[], .bool (Maps.has (Maps.setOf (H := Unit) (.agg []) (A.map lit)) (lit N))]) w := by
  obtain ⟨v, ps, hrun, hv⟩ := World.ownsMap.look_ok h law9 Try.underlying35 (zero36 w) unitElem_mk (key_of N hl)
  obtain ⟨rfl, _⟩ := unitElem_inv hv
  exact hrun
theorem run_put (w : World) (B n : Nat) (A : List (List Int)) (h : MapIs w B n A) (hn : n ≤ 1048576) (N : List Int) (hl : N.length ≤ 1073741824) :
    ∃ w', (Instr.mapUpdate 35 (.map (some B)) (.string (strOfNums N)) (.agg #[])).run Try.prog w = .ok () w' ∧ MapIs w' B (n + 1) (A ++ [N]) ∧ w.grownBy w' (some B) := by
  obtain ⟨w', hrun, h1, h2⟩ := World.ownsMap.update h law9 Try.underlying35 (by unfold maxLen; omega) (key_of N hl) unitElem_mk
  refine ⟨w', hrun, ?_, h2⟩
  unfold MapIs
  rw [List.map_append, List.map_cons, List.map_nil, Maps.setOf_snoc]
  exact h1

theorem MapIs.below {w w' : World} {B n : Nat} {A : List (List Int)} (h : MapIs w B n A) (hb : Below w.heap.size w w') : MapIs w' B n A := by
  obtain ⟨es, clock, h1, h2⟩ := h
  exact ⟨es, clock, by rw [hb.block B (Array.getElem?_eq_some_iff.1 h1).1]; exact h1, h2⟩

theorem Bytes.drew1 {w : World} {a : Option Addr} {z : List Int} (h : Bytes w a z) : Bytes w.drew a z := h
theorem grown_of_below {w w' : World} (h : Below w.heap.size w w') (row : Option Nat) : w.grownBy w' row := ⟨h.os, h.tape, h.output, h.size, fun k hk _ => h.block k hk⟩
theorem grown_trans {a b c : World} {row : Option Nat} (h : a.grownBy b row) (k : b.grownBy c row) : a.grownBy c row :=
  ⟨k.os.trans h.os, k.tape.trans h.tape, k.output.trans h.output, Nat.le_trans h.size k.size, fun i hi hne => (k.block i (Nat.lt_of_lt_of_le hi h.size) hne).trans (h.block i hi hne)⟩
theorem grown_drew (w : World) (row : Option Nat) : w.grownBy w.drew row := ⟨rfl, rfl, rfl, Nat.le_refl _, fun _ _ _ => rfl⟩

set_option maxRecDepth 100000 in
set_option maxHeartbeats 2000000 in
theorem repeats_map (ao : Option Addr) (O : List Int) (no co : Nat) (am : Option Addr) (nm PB SB B f k n : Nat) (A : List (List Int)) (w : World)
    (hno : Hid (O.length = no)) (hO : Out w ao co O) (hA : MapIs w B n A) (ham : (am = none → nm = 0) ∧ (∀ x, am = some x → x = ⟨x.block, x.off, none⟩))
    (c2 : w.cell? ⟨PB, 2, none⟩ = some (.slice ao no co)) (c3 : w.cell? ⟨PB, 3, none⟩ = some (.slice am nm nm)) (cs : w.cell? ⟨SB, 0, none⟩ = some (.map (some B)))
    (hk : k ≤ no) (hf : f ≤ nm) (hco : co ≤ 9223372036854775807) (hnol : no ≤ 1073741824) (hnml : nm ≤ 1048576) (hnl : n ≤ 1048576) (r : Bool)
    (hr : Hid (Maps.has (Maps.setOf (H := Unit) (.agg []) (A.map lit)) (lit (O.drop k)) = r)) :
    Calls Try.prog 25 #[.pointer (some ⟨PB, 0, none⟩), .int .i64 f, .int .i64 k, .pointer (some ⟨SB, 0, none⟩)] w fun e w' => e = .returned (.bool r) ∧ MapIs w' B (n + 1) (A ++ [O.drop k]) ∧ w.grownBy w' (some B) := by
  have q35 : ∀ (w : World) (r : Option Nat), (binOp .eql 35 (.map r) (.map none)).run Try.prog w = .ok (.bool r.isNone) w := fun w r => run_eql_map_nil w _ _ _ r Try.underlying35
  have HO := hid hO
  have HA := hid hA
  have HAM := hid ham
  have hnc : no ≤ co := by have := hO.le; rw [hno.out] at this; exact this
  clear hO hA ham
  go_enter Try.func25, Try.ntmps25
  go_upto_region 1 with fail
  go_cut [9] from 17 (fun v wc => ∃ an cn, v = .slice an (no - k) cn ∧ Bytes w an (O.drop k) ∧ w = wc)
  case first =>
    by_cases hkc : k = co
    · have hkn : no = k := by omega
      have HE : Hid (Bytes w ao (O.drop k)) := .inl (List.drop_eq_nil_of_le (by rw [hno.out]; omega))
      clear hkn
      subst hkc
      go_wp2
      go_meet
      case rel => exact ⟨ao, _, by first | rfl | (rw [show no - k = 0 by omega]), HE.out, rfl⟩
    · rcases HO.out with ⟨_, h0, h1⟩ | ⟨b, off, rfl, _, hB⟩
      · exact absurd (by have := hno.out; rw [h0] at this; simp at this; omega) hkc
      · have HE : Hid (Bytes w (some ⟨b, off + k, none⟩) (O.drop k)) := by
          have := hB.part k (no - k)
          rwa [List.take_of_length_le (by have := hno.out; simp; omega)] at this
        have hkc' : ¬ co = k := fun h => hkc h.symm
        clear hB hkc
        go_wp2
        go_meet
        case rel => exact ⟨_, _, rfl, HE.out, rfl⟩
  case rest =>
    obtain ⟨an, cn, rfl, hN, rfl⟩ := hcut
    have HN := hid hN
    clear hN
    go_upto_region 2 with fail
    go_cut [10] from 17 (fun v wc => ∃ am' cm', v = .slice am' (nm - f) cm' ∧ w = wc)
    case first =>
      by_cases hfn : f = nm
      · subst hfn
        go_wp2
        go_meet
        case rel => exact ⟨am, _, by first | rfl | (rw [show f - f = 0 by omega]), rfl⟩
      · cases am with
        | none => exact absurd (HAM.out.1 rfl) (by omega)
        | some x =>
          obtain ⟨b, off, spot⟩ := x
          obtain rfl : spot = none := by have := HAM.out.2 _ rfl; simpa using this
          have hfn' : ¬ nm = f := fun h => hfn h.symm
          clear hfn
          go_wp2
          go_meet
          case rel => exact ⟨_, _, rfl, rfl⟩
    case rest =>
      obtain ⟨am', cm', rfl, rfl⟩ := hcut
      obtain ⟨nn, hnn⟩ : ∃ nn, nn = no - k := ⟨_, rfl⟩
      rw [← hnn]
      have HNN : Hid ((O.drop k).length = nn) := by rw [List.length_drop, hno.out]; exact hnn.symm
      have hnl2 : (O.drop k).length ≤ 1073741824 := by simp; have := hno.out; omega
      clear hnn
      have hSB : SB < w.heap.size := World.block_lt_of_cell? w _ cs
      have s1 := run_string w.drew an (O.drop k) nn cn HNN.out (Bytes.drew1 HN.out)
      have s2 := run_string (w.alloc (.cells #[] 36)).drew an (O.drop k) nn cn HNN.out (Bytes.drew1 (Bytes.alloc HN.out _))
      have l1 := run_look w.drew B n A HA.out (O.drop k) hnl2
      have l2 := run_look (w.alloc (.cells #[] 36)).drew B n A (World.ownsMap.alloc HA.out _) (O.drop k) hnl2
      rw [hr.out] at l1 l2
      generalize strOfNums (O.drop k) = s at s1 s2 l1 l2
      go_upto_region 18 with fail
      go_cut [16] from 17 (fun v wc => v = .bool r ∧ Below w.heap.size w wc)
      case first =>
        go_region
        all_goals go_wp2_with fail
        all_goals go_meet
        all_goals exact ⟨rfl, ((Below.refl _ _).alloc (Nat.le_refl _) _).drew⟩
      case rest =>
        obtain ⟨rfl, hB⟩ := hcut
        have csc : wc.cell? ⟨SB, 0, none⟩ = some (.map (some B)) := by rw [hB.cell (p := ⟨SB, 0, none⟩) hSB]; exact cs
        have hAc := HA.out.below hB
        have hNc := Bytes.below HN.out hB
        have s3 := run_string wc.drew an (O.drop k) nn cn HNN.out (Bytes.drew1 hNc)
        obtain ⟨w2, hput, hM2, hg2⟩ := run_put wc.drew B n A hAc hnl (O.drop k) hnl2
        have HM2 := hid hM2
        have HG2 := hid (grown_trans (grown_trans (grown_of_below hB (some B)) (grown_drew wc (some B))) hg2)
        have hSBc : SB < wc.heap.size := Nat.lt_of_lt_of_le hSB hB.size
        generalize strOfNums (O.drop k) = s' at s3 hput
        clear s1 s2 l1 l2 hM2 hg2 hAc hNc hB c2 c3
        go_wp2
        go_region
        all_goals go_wp2
        all_goals go_ret
        all_goals exact ⟨rfl, HM2.out, HG2.out⟩

end Go.Proofs.Qxb6604022a
