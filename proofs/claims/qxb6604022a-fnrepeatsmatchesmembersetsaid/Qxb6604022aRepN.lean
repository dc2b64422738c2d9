/-
  THE MEMBER SET, whole.
-/
import Derived.Test.Qxb6604022aRepM
import Derived.Deep.CutBlock
import Derived.Outline
namespace Go.Proofs.Qxb6604022a
open Go.ChangeShapes Go.WideShapes Go.ChangeAt Go.RowKit
set_option linter.unusedVariables false

theorem Out.belowB {w w' : World} {B0 : Nat} {a : Option Addr} {c : Nat} {O : List Int} (h : Out w a c O) (hB : B0 = w.heap.size) (hb : Below B0 w w') : Out w' a c O := by subst hB; exact h.below hb
theorem Mems.belowB {w w' : World} {B0 : Nat} {a : Option Addr} {M : List Mem} (h : Mems w a M) (hB : B0 = w.heap.size) (hb : Below B0 w w') : Mems w' a M := by subst hB; exact h.below hb
theorem Out.addr {w : World} {a : Option Addr} {c k : Nat} {O : List Int} (h : Out w a c O) (hk : k ≤ O.length) (hkc : ¬ k = c) : ∃ b off, a = some ⟨b, off, none⟩ ∧ Bytes w a O := by
  rcases h with ⟨_, h0, h1⟩ | ⟨b, off, h1, _, h2⟩
  · subst h0; subst h1; simp at hk; omega
  · exact ⟨b, off, h1, h2⟩
theorem mem_keys_succ (O : List Int) (M : List Mem) (f j : Nat) (h : f ≤ j) (N : List Int) : N ∈ keysFrom O M f (j + 1 - f) ↔ N ∈ keysFrom O M f (j - f) ∨ keyAt O M j = N := by
  rw [show j + 1 - f = (j - f) + 1 by omega, keysFrom_succ, List.mem_append, List.mem_singleton, show f + (j - f) = j by omega]
  constructor
  · rintro (h | h)
    · exact .inl h
    · exact .inr h.symm
  · rintro (h | h)
    · exact .inl h
    · exact .inr h.symm

theorem Mems.at2 {w w' : World} {b off : Nat} {M : List Mem} {O : List Int} {f : Nat} (h : Mems w (some ⟨b, off, none⟩) M) (hB : Below w.heap.size w w') (hW : Within O M f) (i : Nat) (hf : f ≤ i) (hi : i < M.length) :
    w'.cell? ⟨b, off + i * 4 + 1, none⟩ = some (.int .i64 (Qxb6604022a.mk M i : Int)) ∧ w'.cell? ⟨b, off + i * 4 + 2, none⟩ = some (.int .i64 (mv M i : Int)) ∧ Qxb6604022a.mk M i ≤ mv M i ∧ mv M i ≤ O.length ∧ b < w'.heap.size := by
  obtain ⟨b', off', ha, hb, hc⟩ := (h.below hB).cellsAt (by omega)
  obtain ⟨rfl, rfl⟩ : b = b' ∧ off = off' := by simpa using ha
  obtain ⟨_, d1, d2, _⟩ := hc i hi
  obtain ⟨e1, e2, e3, e4⟩ := hW.nat i hf hi
  rw [e1] at d1
  rw [e2] at d2
  exact ⟨d1, d2, e3, e4, hb⟩
theorem key_mem (O : List Int) (M : List Mem) (f i j : Nat) (h : f ≤ i) (hi : i < j) : keyAt O M i ∈ keysFrom O M f (j - f) := by
  unfold keysFrom
  rw [List.mem_map]
  exact ⟨i - f, by simp; omega, by rw [show f + (i - f) = i by omega]⟩
theorem key_succ (O : List Int) (M : List Mem) (f j : Nat) (h : f ≤ j) : keysFrom O M f (j + 1 - f) = keysFrom O M f (j - f) ++ [keyAt O M j] := by
  rw [show j + 1 - f = j - f + 1 by omega, keysFrom_succ, show f + (j - f) = j by omega]

set_option maxRecDepth 100000 in
set_option maxHeartbeats 16000000 in
theorem member_walk (a0 a1 : Option Addr) (O : List Int) (M : List Mem) (n0 n1 c0 c1 : Nat) (f k : Int) (made : Bool) (w : World) (hn0 : Hid (O.length = n0)) (hn1 : Hid (M.length = n1)) (h0 : Bytes w a0 O) (h1 : Mems w a1 M) (hby : Byt O)
    (hl0 : n0 ≤ 9223372036854775807) (hl1 : n1 ≤ 9223372036854775807) (hnil0 : a0 = none → O = []) (hnil1 : a1 = none → M = []) :
    Calls Try.prog 5 #[.slice a0 n0 c0, .slice a1 n1 c1, .int .i64 f, .int .i64 k, .bool made] w fun e w' => e = .returned (.bool true) ∧ Below w.heap.size w w' := by
  have q35 : ∀ (w : World) (r : Option Nat), (binOp .eql 35 (.map r) (.map none)).run Try.prog w = .ok (.bool r.isNone) w := fun w r => run_eql_map_nil w _ _ _ r Try.underlying35
  have hmm := @run_makeMap Try.prog
  have H0 := hid h0
  have H1 := hid h1
  have HBY := hid hby
  clear h0 h1 hby
  go_enter Try.func5, Try.ntmps5
  go_wp2_with fail
  refine (zz14_any a0 a1 n0 n1 c0 c1 f k made _ hl0 hl1).mono ?_
  rintro e w' ⟨b, rfl, rfl, hb⟩
  cases b with
  | false =>
    go_wp2_with fail
    go_ret
    exact ⟨rfl, Below.refl _ _⟩
  | true =>
    have htot := hb rfl
    clear hb
    by_cases hl1' : 1024 < n1
    · go_wp2_with fail
      go_ret
      exact ⟨rfl, Below.refl _ _⟩
    by_cases hl2' : 1048576 < n0 + 32 * n1
    · have hbq : (decide ((1048576 : Int) < (n0 : Int)) || decide ((1024 : Int) < (n1 : Int))) = false := by simp; omega
      go_wp2_with fail
      go_ret
      exact ⟨rfl, Below.refl _ _⟩
    have hbq : (decide ((1048576 : Int) < (n0 : Int)) || decide ((1024 : Int) < (n1 : Int))) = false := by simp; omega
    go_wp2_with fail
    refine (clone_out a0 O n0 c0 _ hn0 H0.out (by omega) hnil0).mono ?_
    rintro e w1 ⟨ao, co, rfl, hO, hcom, hoblk, hB1⟩
    have HO1 := hid hO
    have HOB1 := hid hoblk
    have HB1 := hid hB1
    have H1' := hid (H1.out.below hB1)
    clear hO hoblk hB1
    go_wp2_with fail
    refine (mclone_is a1 M n1 c1 _ hn1 H1'.out (by omega) hnil1).mono ?_
    rintro e w2 ⟨am, rfl, hM2, hB2⟩
    have HO2 := hid (HO1.out.below hB2)
    have HM2 := hid hM2
    have HOB2 : Hid (∀ x, ao = some x → x.block < w2.heap.size) := fun x hx => Nat.lt_of_lt_of_le (HOB1.out x hx) hB2.size
    have HB2 := hid (HB1.out.trans (hB2.mono HB1.out.size))
    clear hM2 hB2 H1' HO1 HOB1 HB1 H0 H1
    go_wp2_with fail
    refine (domain_any ao O n0 co am M n1 n1 f k _ hn0 hn1 HM2.out (by omega) (by omega)).mono ?_
    rintro e w3 ⟨b, rfl, ⟨nd, hw3⟩, hdom⟩
    have hB23 : Below w2.heap.size w2 w3 := by rw [hw3]; exact below_drewN (Below.refl _ _) nd
    have HB3 := hid (HB2.out.trans (hB23.mono HB2.out.size))
    have HO3 := hid (HO2.out.below hB23)
    have HM3 := hid (HM2.out.below hB23)
    have HOB3 : Hid (∀ x, ao = some x → x.block < w3.heap.size) := fun x hx => Nat.lt_of_lt_of_le (HOB2.out x hx) hB23.size
    clear hw3 hB23 HO2 HM2 HOB2 HB2
    cases b with
    | false =>
      go_wp2_with fail
      go_ret
      exact ⟨rfl, HB3.out⟩
    | true =>
      obtain ⟨hf0, hfn, hk0, hkn, hW⟩ := hdom rfl
      obtain ⟨f, rfl⟩ : ∃ n : Nat, f = n := ⟨f.toNat, by omega⟩
      obtain ⟨k, rfl⟩ : ∃ n : Nat, k = n := ⟨k.toNat, by omega⟩
      rw [Int.toNat_natCast] at hW
      have HW := hid hW
      have hfn' : f ≤ n1 := by omega
      have hkn' : k ≤ n0 := by omega
      clear hdom hW hf0 hfn hk0 hkn
      go_wp2_with fail
      refine (keybytes_any ao O n0 co am M n1 n1 f k _ hn0 hn1 HM3.out (by omega) (by omega) HW.out hkn').mono ?_
      rintro e w4 ⟨rr, rfl, nd, hw4⟩
      have hB34 : Below w3.heap.size w3 w4 := by rw [hw4]; exact below_drewN (Below.refl _ _) nd
      have HB4 := hid (HB3.out.trans (hB34.mono HB3.out.size))
      have HO4 := hid (HO3.out.below hB34)
      have HM4 := hid (HM3.out.below hB34)
      have HOB4 : Hid (∀ x, ao = some x → x.block < w4.heap.size) := fun x hx => Nat.lt_of_lt_of_le (HOB3.out x hx) hB34.size
      clear hw4 hB34 HO3 HM3 HOB3 HB3
      by_cases hrr : 1048576 < rr
      · go_wp2_with fail
        go_ret
        exact ⟨rfl, HB4.out⟩
      obtain ⟨L, hL⟩ : ∃ L, L = n1 - f := ⟨_, rfl⟩
      have HL := hid hL
      have hLl : L ≤ 1024 := by omega
      obtain ⟨A, hA⟩ : ∃ A, A = keysFrom O M f (n1 - f) := ⟨_, rfl⟩
      have HA := hid hA
      have hnco : n0 ≤ co := by have := HO4.out.le; rw [hn0.out] at this; exact this
      have HSI0 : Hid (SeenIs (w4.alloc (.cells #[.map none] 35)) w4.heap.size none) := heap_alloc_new w4 _
      have HBA : Hid (Below w4.heap.size w4 (w4.alloc (.cells #[.map none] 35))) := (Below.refl _ _).alloc (Nat.le_refl _) _
      clear hL hA
      go_upto_if 66 with fail
      go_cut [12] from 67 (fun v wc => SeenPre wc w4.heap.size w4.heap.size made (n1 - f) (keysFrom O M f (n1 - f)) ∧ Below w4.heap.size w4 wc ∧ w4.heap.size ≤ wc.heap.size)
      case first =>
        cases made with
        | false =>
          go_wp2
          go_meet
          case rel => exact ⟨.inl ⟨rfl, HSI0.out⟩, HBA.out, by simp⟩
        | true =>
          go_wp2
          as_aux_lemma =>
            have HB1 : Hid (Below w4.heap.size w4 ((w4.alloc (.cells #[.map (some (w4.heap.size + 1))] 35)).alloc (.map #[] 0))) := ((Below.refl _ _).alloc (Nat.le_refl _) _).alloc (by simp) _
            have HS1 : Hid (SeenIs ((w4.alloc (.cells #[.map (some (w4.heap.size + 1))] 35)).alloc (.map #[] 0)) w4.heap.size (some (w4.heap.size + 1))) := by
              unfold SeenIs
              rw [Below.heap_alloc _ _ w4.heap.size (by simp)]
              exact heap_alloc_new w4 _
            have HM1 : Hid (MapIs ((w4.alloc (.cells #[.map (some (w4.heap.size + 1))] 35)).alloc (.map #[] 0)) (w4.heap.size + 1) (f - f) (keysFrom O M f (f - f))) := by
              have := World.ownsMap_made (w4.alloc (.cells #[.map (some (w4.heap.size + 1))] 35)) Try.prog 9 (unitElem (H := Unit))
              rw [show (w4.alloc (.cells #[.map (some (w4.heap.size + 1))] 35)).heap.size = w4.heap.size + 1 by simp] at this
              rw [show f - f = 0 by omega]
              exact this
            clear HSI0 HBA
            go_wp2
            go_loopw [12] (fun i wr => ∃ j : Nat, f ≤ j ∧ j ≤ n1 ∧ i = .int .i64 j ∧ Below w4.heap.size w4 wr ∧ SeenIs wr w4.heap.size (some (w4.heap.size + 1)) ∧ MapIs wr (w4.heap.size + 1) (j - f) (keysFrom O M f (j - f))) (fun i _ => n1 - (intOf i).toNat)
            case atStart => exact ⟨f, Nat.le_refl _, hfn', rfl, HB1.out, HS1.out, HM1.out⟩
            case round =>
              clear HB1 HS1 HM1
              obtain ⟨j, hfj, hj, rfl, hB, hSr, hMr⟩ := hrel
              have HB := hid hB
              have HSr := hid hSr
              have HMr := hid hMr
              have csr : wr.cell? ⟨w4.heap.size, 0, none⟩ = some (.map (some (w4.heap.size + 1))) := cell_of_one' hSr
              have hSBr : w4.heap.size < wr.heap.size := hSr.lt
              clear hSr hMr hB
              by_cases hlt : j < n1
              · obtain ⟨bm, om, rfl, hbl, hc⟩ := (HM4.out.below HB.out).cellsAt (by have := hn1.out; omega)
                obtain ⟨d0, d1, d2, d3⟩ := hc j (by have := hn1.out; omega)
                obtain ⟨e1, e2, e3, e4⟩ := HW.out.nat j hfj (by have := hn1.out; omega)
                rw [e1] at d1
                rw [e2] at d2
                have HKS : Hid (keysFrom O M f (j + 1 - f) = keysFrom O M f (j - f) ++ [part O (mk M j) (mv M j)]) := by
                  rw [show j + 1 - f = j - f + 1 by omega, keysFrom_succ, show f + (j - f) = j by omega]
                  exact hid rfl
                generalize mk M j = kj at *
                generalize mv M j = vj at *
                have e4' : vj ≤ n0 := by have := hn0.out; omega
                have HPL : Hid ((part O kj vj).length = vj - kj) := part_length O kj vj e3 e4
                have hpl : (part O kj vj).length ≤ 1073741824 := by rw [HPL.out]; omega
                clear hc d0 d3 e1 e2 e4
                have hlti : (j : Int) < (n1 : Int) := by omega
                obtain ⟨w16, put16, M16, G16⟩ := run_put wr.drew (w4.heap.size + 1) (j - f) (keysFrom O M f (j - f)) HMr.out (by omega) (part O kj vj) hpl
                have HM16 := hid M16
                have g16 := grown_trans (grown_drew wr (some (w4.heap.size + 1))) G16
                have HS16 := hid (HSr.out.grown g16 (by simp))
                have HB16 : Hid (Below w4.heap.size w4 w16) := HB.out.grown g16 (Nat.le_of_lt hSBr) (fun g hg => by obtain rfl := Option.some.inj hg; omega)
                clear M16 G16 g16 hpl
                by_cases hkc : kj = co
                · have hvk : kj = vj := by omega
                  subst hvk
                  have HPL0 : Hid ((part O kj kj).length = 0) := HPL.out.trans (by omega)
                  clear HPL
                  have HPL := HPL0
                  clear HPL0
                  have HXB : Bytes wr.drew ao (part O kj kj) := .inl (List.eq_nil_of_length_eq_zero HPL.out)
                  subst hkc
                  as_aux_lemma =>
                    have s16 := run_string wr.drew ao (part O kj kj) _ 0 HPL.out HXB
                    generalize strOfNums (part O kj kj) = s at s16 put16
                    clear HXB
                    go_wp2
                    go_region
                    all_goals go_wp2
                    all_goals go_roundw
                    all_goals first
                      | (case rel => exact ⟨j + 1, by omega, by omega, by go_num, HB16.out, HS16.out, by rw [HKS.out, show j + 1 - f = j - f + 1 by omega]; exact HM16.out⟩)
                      | skip
                    all_goals first
                      | (case measure => simp [intOf]; omega)
                      | skip
                · have hkc' : ¬ co = kj := fun h => hkc h.symm
                  obtain ⟨bo, oo, rfl, hBo⟩ := HO4.out.addr (k := kj) (by rw [hn0.out]; omega) hkc
                  have HXB : Bytes wr.drew (some ⟨bo, oo + kj, none⟩) (part O kj vj) := Bytes.drew1 ((hBo.below HB.out).part kj (vj - kj))
                  clear hkc hBo
                  as_aux_lemma =>
                    have s16 := run_string wr.drew (some ⟨bo, oo + kj, none⟩) (part O kj vj) _ (co - kj) HPL.out HXB
                    generalize strOfNums (part O kj vj) = s at s16 put16
                    clear HXB
                    go_wp2
                    go_region
                    all_goals go_wp2
                    all_goals go_roundw
                    all_goals first
                      | (case rel => exact ⟨j + 1, by omega, by omega, by go_num, HB16.out, HS16.out, by rw [HKS.out, show j + 1 - f = j - f + 1 by omega]; exact HM16.out⟩)
                      | skip
                    all_goals first
                      | (case measure => simp [intOf]; omega)
                      | skip
              · obtain rfl : n1 = j := by omega
                go_wp2
                go_meet
                case rel => exact ⟨.inr ⟨rfl, w4.heap.size + 1, HSr.out, Nat.le_succ _, HMr.out⟩, HB.out, HB.out.size⟩
      case rest =>
        as_aux_lemma =>
          obtain ⟨hSP, hBc, hzc⟩ := hcut
          have HOc := hid (HO4.out.belowB rfl hBc)
          have HMc := hid (HM4.out.belowB rfl hBc)
          obtain ⟨r, hr⟩ : ∃ r, decide (O.drop k ∈ keysFrom O M f (n1 - f)) = r := ⟨_, rfl⟩
          have HR := hid hr
          have HSP := hid hSP
          have HBc := hid hBc
          clear hSP hBc hr HSI0 HBA
          go_wp2_with fail
          refine (zzrep_member ao O n0 co am M n1 n1 w4.heap.size f k w4.heap.size made w4 _ hn0 hn1 HOc.out HMc.out HBY.out HW.out HBc.out hzc (Nat.le_refl _) (fun x hx e => absurd (HOB4.out x hx) (by rw [e]; exact Nat.lt_irrefl _)) HSP.out hkn' hfn' hcom (by omega) (by omega) r HR).mono ?_
          rintro e w5 ⟨rfl, hSQ, hB5, hz5⟩
          have HSQ := hid hSQ
          have HO5 := hid (HO4.out.belowB rfl hB5)
          have HM5 := hid (HM4.out.belowB rfl hB5)
          have HBW : Hid (Below w.heap.size w w5) := HB4.out.trans (hB5.mono HB4.out.size)
          clear hSQ hB5 HSP HBc HOc HMc HO4 HM4 HOB4 HB4 hzc
          go_upto_region 19 with fail
          go_cut [14] from 26 (fun v wc => ∃ an cn, v = .slice an (n0 - k) cn ∧ Bytes w5 an (O.drop k) ∧ w5 = wc)
          case first =>
            by_cases hkc : k = co
            · have hkn : n0 = k := by omega
              have HE : Hid (Bytes w5 ao (O.drop k)) := .inl (List.drop_eq_nil_of_le (by rw [hn0.out]; omega))
              have HKC := hid hkc
              clear hkn
              subst hkc
              go_wp2
              go_meet
              case rel => exact ⟨ao, _, by first | rfl | (rw [show n0 - k = 0 by omega]), HE.out, rfl⟩
            · obtain ⟨bo, oo, rfl, hBo⟩ := HO5.out.addr (k := k) (by rw [hn0.out]; omega) hkc
              have HE : Hid (Bytes w5 (some ⟨bo, oo + k, none⟩) (O.drop k)) := by
                have := hBo.part k (n0 - k)
                rwa [List.take_of_length_le (by have := hn0.out; simp; omega)] at this
              have hkc' : ¬ co = k := fun h => hkc h.symm
              clear hBo hkc
              go_wp2
              go_meet
              case rel => exact ⟨_, _, rfl, HE.out, rfl⟩
          case rest =>
            obtain ⟨an, cn, rfl, hN, rfl⟩ := hcut
            have HN := hid hN
            clear hN
            obtain ⟨nn, hnn⟩ : ∃ nn, nn = n0 - k := ⟨_, rfl⟩
            rw [← hnn]
            have HNN : Hid ((O.drop k).length = nn) := by rw [List.length_drop, hn0.out]; exact hnn.symm
            have hnnl : nn ≤ 1048576 := by omega
            clear hnn
            go_wp2
            go_loopw [15, 16] (fun p i wr => ∃ (j : Nat) (b : Bool), f ≤ j ∧ j ≤ n1 ∧ i = .int .i64 j ∧ p = .bool b ∧ (b = true ↔ O.drop k ∈ keysFrom O M f (j - f)) ∧ Below w5.heap.size w5 wr) (fun _ i _ => n1 - (intOf i).toNat)
            case atStart => exact ⟨f, false, Nat.le_refl _, hfn', rfl, rfl, by rw [show f - f = 0 by omega]; simp [keysFrom], Below.refl _ _⟩
            case round =>
              obtain ⟨j, b, hfj, hj, rfl, rfl, hb, hB⟩ := hrel
              have HBb := hid hb
              have HB := hid hB
              clear hb hB
              by_cases hlt : j < n1
              · obtain ⟨bm, om, rfl, hbl, hc⟩ := (HM5.out.below HB.out).cellsAt (by have := hn1.out; omega)
                obtain ⟨d0, d1, d2, d3⟩ := hc j (by have := hn1.out; omega)
                obtain ⟨e1, e2, e3, e4⟩ := HW.out.nat j hfj (by have := hn1.out; omega)
                rw [e1] at d1
                rw [e2] at d2
                have HMS := hid (mem_keys_succ O M f j hfj (O.drop k))
                have HK : Hid (keyAt O M j = part O (mk M j) (mv M j)) := hid rfl
                generalize mk M j = kj at *
                generalize mv M j = vj at *
                have e4' : vj ≤ n0 := by have := hn0.out; omega
                have HPL : Hid ((part O kj vj).length = vj - kj) := part_length O kj vj e3 e4
                have hlti : (j : Int) < (n1 : Int) := by omega
                have HNB : ∀ n, Hid (Bytes (wr.drewN n) an (O.drop k)) := fun n => (HN.out.below HB.out).drewN n
                have HBF : ∀ n, Hid (Below w5.heap.size w5 (wr.drewN n)) := fun n => below_drewN HB.out n
                clear hc d0 d3 e1 e2 e4
                by_cases hkc : kj = co
                · have hvk : kj = vj := by omega
                  subst hvk
                  have HPL0 : Hid ((part O kj kj).length = 0) := HPL.out.trans (by omega)
                  clear HPL
                  have HPL := HPL0
                  clear HPL0
                  have HXB : ∀ n, Hid (Bytes (wr.drewN n) ao (part O kj kj)) := fun n => .inl (List.eq_nil_of_length_eq_zero HPL.out)
                  subst hkc
                  as_aux_lemma =>
                    by_cases heq : part O kj kj = O.drop k
                    · have HEQ : Hid (part O kj kj = O.drop k) := heq
                      have HX : Hid (O.drop k ∈ keysFrom O M f (j + 1 - f)) := HMS.out.2 (.inr (HK.out.trans heq))
                      clear heq
                      go_wp2
                      go_quiet ((go_at_call 11; exact Calls.quiet_of (equal_q _ _ (part O kj kj) (O.drop k) _ _ _ _ _ HPL HNN (by exact HXB _) (by exact HNB _) (by omega) (by omega) true ⟨fun _ => HEQ.out, fun _ => rfl⟩)))
                      go_wp2
                      go_roundw
                      case rel => exact ⟨j + 1, true, by omega, by omega, by go_num, rfl, ⟨fun _ => HX.out, fun _ => rfl⟩, HBF _⟩
                      case measure => simp [intOf]; omega
                    · have HEQ : Hid (false = true ↔ part O kj kj = O.drop k) := ⟨fun h => (nomatch h), fun h => absurd h heq⟩
                      have HX : Hid (b = true ↔ O.drop k ∈ keysFrom O M f (j + 1 - f)) := HBb.out.trans ⟨fun h => HMS.out.2 (.inl h), fun h => (HMS.out.1 h).resolve_right (fun e => heq (HK.out.symm.trans e))⟩
                      clear heq
                      go_wp2
                      go_quiet ((go_at_call 11; exact Calls.quiet_of (equal_q _ _ (part O kj kj) (O.drop k) _ _ _ _ _ HPL HNN (by exact HXB _) (by exact HNB _) (by omega) (by omega) false HEQ)))
                      go_wp2
                      go_roundw
                      case rel => exact ⟨j + 1, b, by omega, by omega, by go_num, rfl, HX.out, HBF _⟩
                      case measure => simp [intOf]; omega
                · have hkc' : ¬ co = kj := fun h => hkc h.symm
                  obtain ⟨bo, oo, rfl, hBo⟩ := HO5.out.addr (k := kj) (by rw [hn0.out]; omega) hkc
                  have HXB : ∀ n, Hid (Bytes (wr.drewN n) (some ⟨bo, oo + kj, none⟩) (part O kj vj)) := fun n => ((hBo.below HB.out).part kj (vj - kj)).drewN n
                  clear hkc hBo
                  as_aux_lemma =>
                    by_cases heq : part O kj vj = O.drop k
                    · have HEQ : Hid (part O kj vj = O.drop k) := heq
                      have HX : Hid (O.drop k ∈ keysFrom O M f (j + 1 - f)) := HMS.out.2 (.inr (HK.out.trans heq))
                      clear heq
                      go_wp2
                      go_quiet ((go_at_call 11; exact Calls.quiet_of (equal_q _ _ (part O kj vj) (O.drop k) _ _ _ _ _ HPL HNN (by exact HXB _) (by exact HNB _) (by omega) (by omega) true ⟨fun _ => HEQ.out, fun _ => rfl⟩)))
                      go_wp2
                      go_roundw
                      case rel => exact ⟨j + 1, true, by omega, by omega, by go_num, rfl, ⟨fun _ => HX.out, fun _ => rfl⟩, HBF _⟩
                      case measure => simp [intOf]; omega
                    · have HEQ : Hid (false = true ↔ part O kj vj = O.drop k) := ⟨fun h => (nomatch h), fun h => absurd h heq⟩
                      have HX : Hid (b = true ↔ O.drop k ∈ keysFrom O M f (j + 1 - f)) := HBb.out.trans ⟨fun h => HMS.out.2 (.inl h), fun h => (HMS.out.1 h).resolve_right (fun e => heq (HK.out.symm.trans e))⟩
                      clear heq
                      go_wp2
                      go_quiet ((go_at_call 11; exact Calls.quiet_of (equal_q _ _ (part O kj vj) (O.drop k) _ _ _ _ _ HPL HNN (by exact HXB _) (by exact HNB _) (by omega) (by omega) false HEQ)))
                      go_wp2
                      go_roundw
                      case rel => exact ⟨j + 1, b, by omega, by omega, by go_num, rfl, HX.out, HBF _⟩
                      case measure => simp [intOf]; omega
              · obtain rfl : n1 = j := by omega
                obtain rfl : b = r := by
                  have h1 := HBb.out
                  have h2 := HR.out
                  rw [Bool.eq_iff_iff, h1, ← h2, decide_eq_true_iff]
                have hbb : (b != b) = false := by simp
                as_aux_lemma =>
                  have hnkl : (O.drop k).length ≤ 1073741824 := by rw [HNN.out]; omega
                  obtain ⟨A5, hA5⟩ : ∃ A5, A5 = keysFrom O M f (n1 - f) ++ [O.drop k] := ⟨_, rfl⟩
                  have HA5 := hid hA5
                  have hSQ := HSQ.out
                  rw [← hA5] at hSQ
                  clear hA5 HSQ
                  rcases hSQ with ⟨hm, h16, hs⟩ | ⟨hm, B, nb, hs, hBB, hmp⟩
                  · subst hm
                    have hs' := hs.grown (grown_of_below HB.out none) (fun e => nomatch e)
                    have cs := cell_of_one' hs'
                    have hSBr := hs'.lt
                    clear hs hs'
                    go_wp2
                    go_ret
                    exact ⟨rfl, HBW.out.trans (HB.out.mono HBW.out.size)⟩
                  · have HS := hid hs
                    have HMP := hid hmp
                    have hs' := hs.grown (grown_of_below HB.out none) (fun e => nomatch e)
                    have cs := cell_of_one' hs'
                    have hSBr := hs'.lt
                    have HMD := hid hm
                    clear hs hs' hmp hm
                    go_upto_region 28 with fail
                    go_cut [130] from 26 (fun v wc => v = .bool false ∧ wr = wc)
                    case first =>
                      cases made with
                      | true =>
                        go_wp2
                        go_meet
                        case rel => exact ⟨rfl, rfl⟩
                      | false =>
                        have h16 : 16 ≤ n1 - f := by
                          rcases HMD.out with h | h
                          · exact (nomatch h)
                          · exact h
                        go_wp2
                        go_meet
                        case rel => exact ⟨by rw [decide_eq_false (by omega)], rfl⟩
                    case rest =>
                      obtain ⟨rfl, rfl⟩ := hcut
                      clear HMD
                      go_wp2
                      clear cs hSBr
                      go_loopw [17, 18] (fun d i wr => ∃ (j D : Nat), f ≤ j ∧ j ≤ n1 ∧ i = .int .i64 j ∧ d = .int .i64 D ∧ D = (dl (keysFrom O M f (j - f))).length ∧ Below w5.heap.size w5 wr) (fun _ i _ => n1 - (intOf i).toNat)
                      case atStart => exact ⟨f, 0, Nat.le_refl _, hfn', rfl, rfl, by rw [show f - f = 0 by omega]; simp [keysFrom, dl], HB.out⟩
                      case round =>
                        clear HB
                        obtain ⟨j, D, hfj, hj, rfl, rfl, hD, hB⟩ := hrel
                        have HD := hid hD
                        have HB := hid hB
                        have hDl : D ≤ 1024 := by have h1 := dl_le (keysFrom O M f (j - f)); rw [keysFrom_length, ← hD] at h1; omega
                        clear hD hB
                        by_cases hlt : j < n1
                        · have hlti : (j : Int) < (n1 : Int) := by omega
                          obtain ⟨bm, om, rfl, _, _⟩ := HM5.out.cellsAt (by have := hn1.out; omega)
                          have hjM : Hid (j < M.length) := by rw [hn1.out]; exact hlt
                          go_upto_block 6 with fail
                          go_cut [19] from 136 to 175 (fun v wc => ∃ b, v = .bool b ∧ (b = true ↔ ¬ keyAt O M j ∈ keysFrom O M f (j - f)) ∧ Below w5.heap.size w5 wc)
                          case first =>
                            go_wp2
                            go_loopw [19, 20] (fun fr i wr => ∃ (i' : Nat), f ≤ i' ∧ i' ≤ j ∧ fr = .bool true ∧ i = .int .i64 i' ∧ (¬ keyAt O M j ∈ keysFrom O M f (i' - f)) ∧ Below w5.heap.size w5 wr) (fun _ i _ => j - (intOf i).toNat)
                            case atStart => exact ⟨f, Nat.le_refl _, hfj, rfl, rfl, by rw [show f - f = 0 by omega]; simp [keysFrom], HB.out⟩
                            case round =>
                              obtain ⟨i, hfi, hi, rfl, rfl, hne, hB2⟩ := hrel
                              have HNE := hid hne
                              have HB2 := hid hB2
                              clear hne hB2
                              by_cases hij : i < j
                              · have hiji : (i : Int) < (j : Int) := by omega
                                obtain ⟨d1, d2, e3, e4, hbl⟩ := HM5.out.at2 HB2.out HW.out i hfi (by have := hjM.out; omega)
                                obtain ⟨D1, D2, E3, E4, _⟩ := HM5.out.at2 HB2.out HW.out j hfj hjM.out
                                have HKI : Hid (keyAt O M i = part O (mk M i) (mv M i)) := hid rfl
                                have HKJ : Hid (keyAt O M j = part O (mk M j) (mv M j)) := hid rfl
                                generalize mk M i = ki at *
                                generalize mv M i = vi at *
                                generalize mk M j = kj at *
                                generalize mv M j = vj at *
                                have e4' : vi ≤ n0 := by have := hn0.out; omega
                                have E4' : vj ≤ n0 := by have := hn0.out; omega
                                have hin : (i : Int) < (n1 : Int) := by omega
                                have hin' : i < n1 := by omega
                                have HPI : Hid ((part O ki vi).length = vi - ki) := part_length O ki vi e3 e4
                                have HPJ : Hid ((part O kj vj).length = vj - kj) := part_length O kj vj E3 E4
                                have HBF : ∀ n, Hid (Below w5.heap.size w5 (wr.drewN n)) := fun n => below_drewN HB2.out n
                                clear e4 E4
                                by_cases hki : ki = co
                                · by_cases hkj : kj = co
                                  · as_aux_lemma =>
                                      have hvi : ki = vi := by omega
                                      have HPI0 : Hid ((part O ki vi).length = 0) := HPI.out.trans (by omega)
                                      clear HPI
                                      have HPI := HPI0
                                      clear HPI0
                                      have HXI : ∀ n, Hid (Bytes (wr.drewN n) ao (part O ki vi)) := fun n => .inl (List.eq_nil_of_length_eq_zero HPI.out)
                                      subst hvi
                                      have hvj : kj = vj := by omega
                                      have HPJ0 : Hid ((part O kj vj).length = 0) := HPJ.out.trans (by omega)
                                      clear HPJ
                                      have HPJ := HPJ0
                                      clear HPJ0
                                      have HXJ : ∀ n, Hid (Bytes (wr.drewN n) ao (part O kj vj)) := fun n => .inl (List.eq_nil_of_length_eq_zero HPJ.out)
                                      subst hvj
                                      have HKK : Hid (part O ki ki = part O kj kj) := by rw [show ki = kj by omega]; exact hid rfl
                                      obtain rfl : kj = ki := by omega
                                      subst hkj
                                      clear hki
                                      have heq := HKK.out
                                      have HY : Hid (keyAt O M j ∈ keysFrom O M f (j - f)) := by
                                        have := key_mem O M f i j hfi hij
                                        rw [HKI.out, heq, ← HKJ.out] at this
                                        exact this
                                      have HEQ : Hid ((part O kj kj) = (part O kj kj)) := heq
                                      clear heq HKK HEQ
                                      go_wp2
                                      go_quiet ((go_at_call 11; exact Calls.quiet_of (equal_q _ _ (part O kj kj) (part O kj kj) _ _ _ _ _ HPI HPJ (by exact HXI _) (by exact HXJ _) (by omega) (by omega) true ⟨fun _ => rfl, fun _ => rfl⟩)))
                                      go_wp2
                                      go_meet
                                      case rel => exact ⟨false, rfl, ⟨fun h => (nomatch h), fun h => absurd HY.out h⟩, HBF _⟩
                                  · as_aux_lemma =>
                                      have hvi : ki = vi := by omega
                                      have HPI0 : Hid ((part O ki vi).length = 0) := HPI.out.trans (by omega)
                                      clear HPI
                                      have HPI := HPI0
                                      clear HPI0
                                      have HXI : ∀ n, Hid (Bytes (wr.drewN n) ao (part O ki vi)) := fun n => .inl (List.eq_nil_of_length_eq_zero HPI.out)
                                      subst hvi
                                      obtain ⟨bo, oo, rfl, hBo⟩ := HO5.out.addr (k := kj) (by rw [hn0.out]; omega) hkj
                                      have HXJ : ∀ n, Hid (Bytes (wr.drewN n) (some ⟨bo, oo + kj, none⟩) (part O kj vj)) := fun n => ((hBo.below HB2.out).part kj (vj - kj)).drewN n
                                      have hkj' : ¬ co = kj := fun h => hkj h.symm
                                      clear hkj
                                      clear hBo
                                      subst hki
                                      by_cases heq : (part O ki ki) = (part O kj vj)
                                      · as_aux_lemma =>
                                          have HY : Hid (keyAt O M j ∈ keysFrom O M f (j - f)) := by
                                            have := key_mem O M f i j hfi hij
                                            rw [HKI.out, heq, ← HKJ.out] at this
                                            exact this
                                          have HEQ : Hid ((part O ki ki) = (part O kj vj)) := heq
                                          clear heq
                                          go_wp2
                                          go_quiet ((go_at_call 11; exact Calls.quiet_of (equal_q _ _ (part O ki ki) (part O kj vj) _ _ _ _ _ HPI HPJ (by exact HXI _) (by exact HXJ _) (by omega) (by omega) true ⟨fun _ => HEQ.out, fun _ => rfl⟩)))
                                          go_wp2
                                          go_meet
                                          case rel => exact ⟨false, rfl, ⟨fun h => (nomatch h), fun h => absurd HY.out h⟩, HBF _⟩
                                      · as_aux_lemma =>
                                          have HY : Hid (¬ keyAt O M j ∈ keysFrom O M f (i + 1 - f)) := by
                                            intro h
                                            rcases (mem_keys_succ O M f i hfi _).1 h with h | h
                                            · exact HNE.out h
                                            · rw [HKI.out, HKJ.out] at h
                                              exact heq h
                                          have HEQ : Hid (false = true ↔ (part O ki ki) = (part O kj vj)) := ⟨fun h => (nomatch h), fun h => absurd h heq⟩
                                          clear heq
                                          go_wp2
                                          go_quiet ((go_at_call 11; exact Calls.quiet_of (equal_q _ _ (part O ki ki) (part O kj vj) _ _ _ _ _ HPI HPJ (by exact HXI _) (by exact HXJ _) (by omega) (by omega) false HEQ)))
                                          go_wp2
                                          go_roundw
                                          case rel => exact ⟨i + 1, by omega, by omega, rfl, by go_num, HY.out, HBF _⟩
                                          case measure => simp [intOf]; omega
                                · by_cases hkj : kj = co
                                  · as_aux_lemma =>
                                      have hvj : kj = vj := by omega
                                      have HPJ0 : Hid ((part O kj vj).length = 0) := HPJ.out.trans (by omega)
                                      clear HPJ
                                      have HPJ := HPJ0
                                      clear HPJ0
                                      have HXJ : ∀ n, Hid (Bytes (wr.drewN n) ao (part O kj vj)) := fun n => .inl (List.eq_nil_of_length_eq_zero HPJ.out)
                                      subst hvj
                                      obtain ⟨bo, oo, rfl, hBo⟩ := HO5.out.addr (k := ki) (by rw [hn0.out]; omega) hki
                                      have HXI : ∀ n, Hid (Bytes (wr.drewN n) (some ⟨bo, oo + ki, none⟩) (part O ki vi)) := fun n => ((hBo.below HB2.out).part ki (vi - ki)).drewN n
                                      have hki' : ¬ co = ki := fun h => hki h.symm
                                      clear hki
                                      clear hBo
                                      subst hkj
                                      by_cases heq : (part O ki vi) = (part O kj kj)
                                      · as_aux_lemma =>
                                          have HY : Hid (keyAt O M j ∈ keysFrom O M f (j - f)) := by
                                            have := key_mem O M f i j hfi hij
                                            rw [HKI.out, heq, ← HKJ.out] at this
                                            exact this
                                          have HEQ : Hid ((part O ki vi) = (part O kj kj)) := heq
                                          clear heq
                                          go_wp2
                                          go_quiet ((go_at_call 11; exact Calls.quiet_of (equal_q _ _ (part O ki vi) (part O kj kj) _ _ _ _ _ HPI HPJ (by exact HXI _) (by exact HXJ _) (by omega) (by omega) true ⟨fun _ => HEQ.out, fun _ => rfl⟩)))
                                          go_wp2
                                          go_meet
                                          case rel => exact ⟨false, rfl, ⟨fun h => (nomatch h), fun h => absurd HY.out h⟩, HBF _⟩
                                      · as_aux_lemma =>
                                          have HY : Hid (¬ keyAt O M j ∈ keysFrom O M f (i + 1 - f)) := by
                                            intro h
                                            rcases (mem_keys_succ O M f i hfi _).1 h with h | h
                                            · exact HNE.out h
                                            · rw [HKI.out, HKJ.out] at h
                                              exact heq h
                                          have HEQ : Hid (false = true ↔ (part O ki vi) = (part O kj kj)) := ⟨fun h => (nomatch h), fun h => absurd h heq⟩
                                          clear heq
                                          go_wp2
                                          go_quiet ((go_at_call 11; exact Calls.quiet_of (equal_q _ _ (part O ki vi) (part O kj kj) _ _ _ _ _ HPI HPJ (by exact HXI _) (by exact HXJ _) (by omega) (by omega) false HEQ)))
                                          go_wp2
                                          go_roundw
                                          case rel => exact ⟨i + 1, by omega, by omega, rfl, by go_num, HY.out, HBF _⟩
                                          case measure => simp [intOf]; omega
                                  · as_aux_lemma =>
                                      obtain ⟨bo, oo, rfl, hBo⟩ := HO5.out.addr (k := kj) (by rw [hn0.out]; omega) hkj
                                      have HXI : ∀ n, Hid (Bytes (wr.drewN n) (some ⟨bo, oo + ki, none⟩) (part O ki vi)) := fun n => ((hBo.below HB2.out).part ki (vi - ki)).drewN n
                                      have hki' : ¬ co = ki := fun h => hki h.symm
                                      clear hki
                                      have HXJ : ∀ n, Hid (Bytes (wr.drewN n) (some ⟨bo, oo + kj, none⟩) (part O kj vj)) := fun n => ((hBo.below HB2.out).part kj (vj - kj)).drewN n
                                      have hkj' : ¬ co = kj := fun h => hkj h.symm
                                      clear hkj
                                      clear hBo
                                      by_cases heq : (part O ki vi) = (part O kj vj)
                                      · as_aux_lemma =>
                                          have HY : Hid (keyAt O M j ∈ keysFrom O M f (j - f)) := by
                                            have := key_mem O M f i j hfi hij
                                            rw [HKI.out, heq, ← HKJ.out] at this
                                            exact this
                                          have HEQ : Hid ((part O ki vi) = (part O kj vj)) := heq
                                          clear heq
                                          go_wp2
                                          go_quiet ((go_at_call 11; exact Calls.quiet_of (equal_q _ _ (part O ki vi) (part O kj vj) _ _ _ _ _ HPI HPJ (by exact HXI _) (by exact HXJ _) (by omega) (by omega) true ⟨fun _ => HEQ.out, fun _ => rfl⟩)))
                                          go_wp2
                                          go_meet
                                          case rel => exact ⟨false, rfl, ⟨fun h => (nomatch h), fun h => absurd HY.out h⟩, HBF _⟩
                                      · as_aux_lemma =>
                                          have HY : Hid (¬ keyAt O M j ∈ keysFrom O M f (i + 1 - f)) := by
                                            intro h
                                            rcases (mem_keys_succ O M f i hfi _).1 h with h | h
                                            · exact HNE.out h
                                            · rw [HKI.out, HKJ.out] at h
                                              exact heq h
                                          have HEQ : Hid (false = true ↔ (part O ki vi) = (part O kj vj)) := ⟨fun h => (nomatch h), fun h => absurd h heq⟩
                                          clear heq
                                          go_wp2
                                          go_quiet ((go_at_call 11; exact Calls.quiet_of (equal_q _ _ (part O ki vi) (part O kj vj) _ _ _ _ _ HPI HPJ (by exact HXI _) (by exact HXJ _) (by omega) (by omega) false HEQ)))
                                          go_wp2
                                          go_roundw
                                          case rel => exact ⟨i + 1, by omega, by omega, rfl, by go_num, HY.out, HBF _⟩
                                          case measure => simp [intOf]; omega
                              · obtain rfl : j = i := by omega
                                go_wp2
                                go_meet
                                case rel => exact ⟨true, rfl, ⟨fun _ => HNE.out, fun _ => rfl⟩, HB2.out⟩
                          case rest =>
                            as_aux_lemma =>
                              obtain ⟨b', rfl, hb', hB2⟩ := hcut
                              have HBb' := hid hb'
                              have HB2 := hid hB2
                              clear hb' hB2
                              cases b' with
                              | true =>
                                have HD2 : Hid (D + 1 = (dl (keysFrom O M f (j + 1 - f))).length) := by
                                  rw [key_succ O M f j hfj, dl_new _ (keyAt O M j) (keysFrom_byt O M f _ HBY.out) (part_byt O _ _ HBY.out) (HBb'.out.1 rfl), ← HD.out]
                                  exact hid rfl
                                go_wp2
                                go_roundw
                                case rel => exact ⟨j + 1, D + 1, by omega, by omega, by go_num, by go_num, HD2.out, HB2.out⟩
                                case measure => simp [intOf]; omega
                              | false =>
                                have HD2 : Hid (D = (dl (keysFrom O M f (j + 1 - f))).length) := by
                                  have hmem : keyAt O M j ∈ keysFrom O M f (j - f) := by
                                    by_cases h : keyAt O M j ∈ keysFrom O M f (j - f)
                                    · exact h
                                    · exact absurd (HBb'.out.2 h) (by simp)
                                  rw [key_succ O M f j hfj, dl_old _ _ hmem, ← HD.out]
                                  exact hid rfl
                                go_wp2
                                go_roundw
                                case rel => exact ⟨j + 1, D, by omega, by omega, by go_num, rfl, HD2.out, HB2.out⟩
                                case measure => simp [intOf]; omega
                        · obtain rfl : n1 = j := by omega
                          as_aux_lemma =>
                            have HA5b : Hid (∀ x ∈ A5, Byt x) := by
                              intro x hx
                              rw [HA5.out] at hx
                              rcases List.mem_append.1 hx with h | h
                              · exact keysFrom_byt O M f _ HBY.out x h
                              · obtain rfl := List.mem_singleton.1 h
                                exact drop_byt O k HBY.out
                            go_upto_if 177 with fail
                            go_cut [17] from 26 (fun v wc => v = .int .i64 ((dl A5).length : Nat) ∧ wr = wc)
                            case first =>
                              cases b with
                              | true =>
                                have HD2 : Hid (D = (dl A5).length) := by rw [HA5.out, dl_old _ _ (HBb.out.1 rfl)]; exact HD.out
                                clear HBb HR
                                go_wp2
                                go_meet
                                case rel => exact ⟨by rw [HD2.out], rfl⟩
                              | false =>
                                have HD2 : Hid (D + 1 = (dl A5).length) := by
                                  rw [HA5.out, dl_new _ _ (keysFrom_byt O M f _ HBY.out) (drop_byt O k HBY.out) (fun h => absurd (HBb.out.2 h) (by simp)), ← HD.out]
                                  exact hid rfl
                                clear HBb HR
                                go_wp2
                                go_meet
                                case rel => exact ⟨by rw [← HD2.out]; go_num, rfl⟩
                            case rest =>
                              obtain ⟨rfl, rfl⟩ := hcut
                              obtain ⟨E, hE⟩ : ∃ E, E = (dl A5).length := ⟨_, rfl⟩
                              rw [← hE]
                              have HSZ : Hid (Maps.size (Maps.setOf (H := Unit) (.agg []) (A5.map lit)) = E) := by rw [size_dl]; exact hE.symm
                              clear hE
                              have hs' := HS.out.grown (grown_of_below HB.out none) (fun e => nomatch e)
                              have cs := cell_of_one' hs'
                              have hSBr := hs'.lt
                              have HMPr : Hid (wr.ownsMap Try.prog 9 (unitElem (H := Unit)) B nb (Maps.setOf (.agg []) (A5.map lit))) := HMP.out.below HB.out
                              have hEE : ((E : Int) != (E : Int)) = false := by simp
                              clear hs'
                              go_wp2_with (at_len; refine wpList_len_own _ rfl _ 35 rfl 9 36 Try.underlying35 _ B nb _ rfl HMPr.out ?_; rw [HSZ.out])
                              clear cs hSBr HMPr HSZ hEE
                              go_loopw [21] (fun i wr => ∃ j : Nat, f ≤ j ∧ j ≤ n1 ∧ i = .int .i64 j ∧ Below w5.heap.size w5 wr) (fun i _ => n1 - (intOf i).toNat)
                              case atStart => exact ⟨f, Nat.le_refl _, hfn', rfl, HB.out⟩
                              case round =>
                                clear HB
                                obtain ⟨j, hfj, hj, rfl, hB⟩ := hrel
                                have HB := hid hB
                                have hs' := HS.out.grown (grown_of_below hB none) (fun e => nomatch e)
                                have cs := cell_of_one' hs'
                                have hSBr := hs'.lt
                                have hmr := HMP.out.below hB
                                clear hs' hB
                                by_cases hlt : j < n1
                                · have hlti : (j : Int) < (n1 : Int) := by omega
                                  obtain ⟨bm, om, rfl, _, _⟩ := HM5.out.cellsAt (by have := hn1.out; omega)
                                  obtain ⟨d1, d2, e3, e4, hbl⟩ := HM5.out.at2 HB.out HW.out j hfj (by rw [hn1.out]; exact hlt)
                                  have HIN : Hid (Maps.has (Maps.setOf (H := Unit) (.agg []) (A5.map lit)) (lit (part O (mk M j) (mv M j))) = true) := by
                                    rw [has_keys _ _ HA5b.out (part_byt O _ _ HBY.out)]
                                    exact decide_eq_true (by rw [HA5.out]; exact List.mem_append.2 (.inl (key_mem O M f j n1 hfj hlt)))
                                  generalize mk M j = kj at *
                                  generalize mv M j = vj at *
                                  have e4' : vj ≤ n0 := by have := hn0.out; omega
                                  have HPL : Hid ((part O kj vj).length = vj - kj) := part_length O kj vj e3 e4
                                  have hpl : (part O kj vj).length ≤ 1073741824 := by rw [HPL.out]; omega
                                  have HBF : Hid (Below w5.heap.size w5 (wr.alloc (.cells #[] 36)).drew) := (HB.out.alloc HB.out.size _).drew
                                  have l1 := run_look wr.drew B nb A5 hmr (part O kj vj) hpl
                                  have l2 := run_look (wr.alloc (.cells #[] 36)).drew B nb A5 (World.ownsMap.alloc hmr _) (part O kj vj) hpl
                                  rw [HIN.out] at l1 l2
                                  clear e4 hpl hmr HIN
                                  by_cases hkc : kj = co
                                  · have hvk : kj = vj := by omega
                                    subst hvk
                                    have HPL0 : Hid ((part O kj kj).length = 0) := HPL.out.trans (by omega)
                                    clear HPL
                                    have HPL := HPL0
                                    clear HPL0
                                    have HXB : Hid (Bytes wr ao (part O kj kj)) := .inl (List.eq_nil_of_length_eq_zero HPL.out)
                                    subst hkc
                                    as_aux_lemma =>
                                      have s1 := run_string wr.drew ao (part O kj kj) _ 0 HPL.out (Bytes.drew1 HXB.out)
                                      have s2 := run_string (wr.alloc (.cells #[] 36)).drew ao (part O kj kj) _ 0 HPL.out (Bytes.drew1 (Bytes.alloc HXB.out _))
                                      generalize strOfNums (part O kj kj) = s at s1 s2 l1 l2
                                      go_wp2
                                      go_region
                                      all_goals go_wp2
                                      all_goals go_roundw
                                      all_goals first
                                        | (case rel => exact ⟨j + 1, by omega, by omega, by go_num, HBF.out⟩)
                                        | (case rel => exact ⟨j + 1, by omega, by omega, by go_num, (HB.out.alloc HB.out.size _).drew⟩)
                                        | skip
                                      all_goals first
                                        | (case measure => simp [intOf]; omega)
                                        | skip
                                  · have hkc' : ¬ co = kj := fun h => hkc h.symm
                                    obtain ⟨bo, oo, rfl, hBo⟩ := HO5.out.addr (k := kj) (by rw [hn0.out]; omega) hkc
                                    have HXB : Hid (Bytes wr (some ⟨bo, oo + kj, none⟩) (part O kj vj)) := (hBo.below HB.out).part kj (vj - kj)
                                    clear hkc hBo
                                    as_aux_lemma =>
                                      have s1 := run_string wr.drew (some ⟨bo, oo + kj, none⟩) (part O kj vj) _ (co - kj) HPL.out (Bytes.drew1 HXB.out)
                                      have s2 := run_string (wr.alloc (.cells #[] 36)).drew (some ⟨bo, oo + kj, none⟩) (part O kj vj) _ (co - kj) HPL.out (Bytes.drew1 (Bytes.alloc HXB.out _))
                                      generalize strOfNums (part O kj vj) = s at s1 s2 l1 l2
                                      go_wp2
                                      go_region
                                      all_goals go_wp2
                                      all_goals go_roundw
                                      all_goals first
                                        | (case rel => exact ⟨j + 1, by omega, by omega, by go_num, HBF.out⟩)
                                        | (case rel => exact ⟨j + 1, by omega, by omega, by go_num, (HB.out.alloc HB.out.size _).drew⟩)
                                        | skip
                                      all_goals first
                                        | (case measure => simp [intOf]; omega)
                                        | skip
                                · obtain rfl : n1 = j := by omega
                                  have s1 := run_string wr an (O.drop k) nn cn HNN.out (HN.out.below HB.out)
                                  have l1 := run_look wr B nb A5 hmr (O.drop k) hnkl
                                  rw [has_keys _ _ HA5b.out (drop_byt O k HBY.out), decide_eq_true (show O.drop k ∈ A5 by rw [HA5.out]; simp)] at l1
                                  generalize strOfNums (O.drop k) = s at s1 l1
                                  clear hmr
                                  go_wp2
                                  go_ret
                                  exact ⟨rfl, HBW.out.trans ((HB.out.alloc HB.out.size _).mono HBW.out.size)⟩

end Go.Proofs.Qxb6604022a
