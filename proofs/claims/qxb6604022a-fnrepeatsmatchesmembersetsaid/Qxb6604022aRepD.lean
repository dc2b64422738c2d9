/-
  repeats, where it makes the map.
-/
import Derived.Test.Qxb6604022aRepC
namespace Go.Proofs.Qxb6604022a
open Go.ChangeShapes Go.WideShapes Go.ChangeAt Go.RowKit
set_option linter.unusedVariables false

/-- the keys of L members from f on -/
def keysFrom (O : List Int) (M : List (Int × Int × Int × Int)) (f L : Nat) : List (List Int) := (List.range L).map fun j => keyAt O M (f + j)
theorem keysFrom_zero (O : List Int) (M : List (Int × Int × Int × Int)) (f : Nat) : keysFrom O M f 0 = [] := rfl
theorem keysFrom_succ (O : List Int) (M : List (Int × Int × Int × Int)) (f L : Nat) : keysFrom O M f (L + 1) = keysFrom O M f L ++ [keyAt O M (f + L)] := by
  simp [keysFrom, List.range_succ]

theorem Mems.grown {w w' : World} {a : Option Addr} {M : List (Int × Int × Int × Int)} {row : Option Nat} (h : Mems w a M) (hg : w.grownBy w' row) (hne : ∀ x, a = some x → row ≠ some x.block) : Mems w' a M := by
  rcases h with h | ⟨b, off, ha, hc⟩
  · exact .inl h
  · refine .inr ⟨b, off, ha, fun i hi => ?_⟩
    obtain ⟨h0, h1, h2, h3⟩ := hc i hi
    have hn : ∀ o, some (⟨b, o, none⟩ : Addr).block ≠ row := fun o e => hne _ ha e.symm
    exact ⟨hg.cell h0 (hn _), hg.cell h1 (hn _), hg.cell h2 (hn _), hg.cell h3 (hn _)⟩

theorem cell_of_one' {w : World} {b : Nat} {v : Value} {t : TypeId} (h : w.heap[b]? = some (.cells #[v] t (0, 0))) : w.cell? ⟨b, 0, none⟩ = some v := by
  rw [cell_of_row w b 0 _ t (0, 0) h]; rfl

/-- the map's cell -/
def SeenIs (w : World) (SB : Nat) (r : Option Nat) : Prop := w.heap[SB]? = some (.cells #[.map r] 35 (0, 0))
theorem SeenIs.grown {w w' : World} {SB : Nat} {r : Option Nat} {row : Option Nat} (h : SeenIs w SB r) (hg : w.grownBy w' row) (hne : row ≠ some SB) : SeenIs w' SB r := by
  unfold SeenIs at *
  rw [hg.block SB (Array.getElem?_eq_some_iff.1 h).1 (fun e => hne e.symm)]
  exact h
theorem SeenIs.lt {w : World} {SB : Nat} {r : Option Nat} (h : SeenIs w SB r) : SB < w.heap.size := (Array.getElem?_eq_some_iff.1 h).1

/-- the map is made and laid into its cell -/
theorem made_map (w : World) (SB : Nat) (r : Option Nat) (h : SeenIs w SB r) :
    SeenIs ((w.setCell ⟨SB, 0, none⟩ (.map (some w.heap.size))).alloc (.map #[] 0)) SB (some w.heap.size) ∧ w.grownBy ((w.setCell ⟨SB, 0, none⟩ (.map (some w.heap.size))).alloc (.map #[] 0)) (some SB) ∧
    MapIs ((w.setCell ⟨SB, 0, none⟩ (.map (some w.heap.size))).alloc (.map #[] 0)) w.heap.size 0 [] := by
  have hlt := h.lt
  have hsz : (w.setCell ⟨SB, 0, none⟩ (.map (some w.heap.size))).heap.size = w.heap.size := by simp [World.setCell]
  refine ⟨?_, ⟨rfl, rfl, rfl, by simp [World.setCell], fun k hk hne => ?_⟩, ?_⟩
  · unfold SeenIs
    rw [Below.heap_alloc _ _ SB (by rw [hsz]; exact hlt)]
    exact one_setCell h
  · rw [Below.heap_alloc _ _ k (by rw [hsz]; exact hk), Below.heap_setCell _ _ _ _ (by intro e; exact hne (by rw [e]))]
  · have := World.ownsMap_made (w.setCell ⟨SB, 0, none⟩ (.map (some w.heap.size))) Try.prog 9 (unitElem (H := Unit))
    rw [hsz] at this
    exact this

/-- what turns in a block that w had not leaves w's blocks alone -/
theorem grown_new {w wr w' : World} {row : Option Nat} (h : w.grownBy wr row) (k : wr.grownBy w' (some w.heap.size)) : w.grownBy w' row :=
  ⟨k.os.trans h.os, k.tape.trans h.tape, k.output.trans h.output, Nat.le_trans h.size k.size, fun i hi hne => (k.block i (Nat.lt_of_lt_of_le hi h.size) (by simp; omega)).trans (h.block i hi hne)⟩

set_option maxRecDepth 100000 in
set_option maxHeartbeats 4000000 in
theorem repeats_many (ao : Option Addr) (O : List Int) (no co : Nat) (am : Option Addr) (M : List (Int × Int × Int × Int)) (nm PB SB f k : Nat) (w : World)
    (hno : Hid (O.length = no)) (hnm : Hid (M.length = nm)) (hO : Out w ao co O) (hM : Mems w am M) (hby : Byt O) (hW : Within O M f)
    (c2 : w.cell? ⟨PB, 2, none⟩ = some (.slice ao no co)) (c3 : w.cell? ⟨PB, 3, none⟩ = some (.slice am nm nm)) (hS : SeenIs w SB none)
    (hPS : PB ≠ SB) (hoS : ∀ x, ao = some x → x.block ≠ SB) (hmS : ∀ x, am = some x → x.block ≠ SB)
    (hk : k ≤ no) (hf : f ≤ nm) (h16 : 16 ≤ nm - f) (hco : co ≤ 9223372036854775807) (hnol : no ≤ 1073741824) (hnml : nm ≤ 1048575) (r : Bool)
    (hr : Hid (Maps.has (Maps.setOf (H := Unit) (.agg []) ((keysFrom O M f (nm - f)).map lit)) (lit (O.drop k)) = r)) :
    Calls Try.prog 25 #[.pointer (some ⟨PB, 0, none⟩), .int .i64 f, .int .i64 k, .pointer (some ⟨SB, 0, none⟩)] w fun e w' => e = .returned (.bool r) ∧ SeenIs w' SB (some w.heap.size) ∧ MapIs w' w.heap.size (nm - f + 1) (keysFrom O M f (nm - f) ++ [O.drop k]) ∧ w.grownBy w' (some SB) := by
  have q35 : ∀ (w : World) (r : Option Nat), (binOp .eql 35 (.map r) (.map none)).run Try.prog w = .ok (.bool r.isNone) w := fun w r => run_eql_map_nil w _ _ _ r Try.underlying35
  have mk35 : ∀ w : World, (Instr.makeMap 35 (some (.int .i64 32))).run Try.prog w = .ok (.map (some w.heap.size)) (w.alloc (.map #[] 0)) := fun w => by kernel_rfl
  have HS := hid hS
  have cs : w.cell? ⟨SB, 0, none⟩ = some (.map none) := cell_of_one' hS
  have fs : w.frozen? ⟨SB, 0, none⟩ = false := free_of_one hS
  have hSB : SB < w.heap.size := hS.lt
  have HOS := hid hoS
  have HMS := hid hmS
  have HO := hid hO
  have HM := hid hM
  have HBY := hid hby
  have HW := hid hW
  have hnc : no ≤ co := by have := hO.le; rw [hno.out] at this; exact this
  clear hO hM hby hW hS hoS hmS
  go_enter Try.func25, Try.ntmps25
  go_upto_region 1 with fail
  go_cut [9] from 17 (fun v wc => ∃ an cn, v = .slice an (no - k) cn ∧ (Bytes w an (O.drop k) ∧ ∀ x, an = some x → x.block ≠ SB) ∧ w = wc)
  case first =>
    by_cases hkc : k = co
    · have hkn : no = k := by omega
      have HE : Hid (Bytes w ao (O.drop k)) := .inl (List.drop_eq_nil_of_le (by rw [hno.out]; omega))
      have HKC := hid hkc
      clear hkn
      subst hkc
      go_wp2
      go_meet
      case rel => exact ⟨ao, _, by first | rfl | (rw [show no - k = 0 by omega]), ⟨HE.out, HOS.out⟩, rfl⟩
    · rcases HO.out with ⟨_, h0, h1⟩ | ⟨b, off, rfl, _, hB⟩
      · exact absurd (by have := hno.out; rw [h0] at this; simp at this; omega) hkc
      · have HE : Hid (Bytes w (some ⟨b, off + k, none⟩) (O.drop k)) := by
          have := hB.part k (no - k)
          rwa [List.take_of_length_le (by have := hno.out; simp; omega)] at this
        have hkc' : ¬ co = k := fun h => hkc h.symm
        clear hB hkc
        go_wp2
        go_meet
        case rel => exact ⟨_, _, rfl, ⟨HE.out, fun x hx => by obtain rfl := Option.some.inj hx; exact HOS.out ⟨b, off, none⟩ rfl⟩, rfl⟩
  case rest =>
    obtain ⟨an, cn, rfl, hN, rfl⟩ := hcut
    have HN := hid hN.1
    have HNS := hid hN.2
    clear hN
    go_upto_region 2 with fail
    go_cut [10] from 17 (fun v wc => ∃ am' cm', v = .slice am' (nm - f) cm' ∧ (Mems w am' (M.drop f) ∧ ∀ x, am' = some x → x.block ≠ SB) ∧ w = wc)
    case first =>
      by_cases hfn : f = nm
      · exact absurd h16 (by omega)
      · obtain ⟨b, off, rfl⟩ := HM.out.open (by have := hnm.out; omega)
        have HE := hid (HM.out.drop f)
        have hfn' : ¬ nm = f := fun h => hfn h.symm
        clear hfn
        go_wp2
        go_meet
        case rel => exact ⟨_, _, rfl, ⟨HE.out, fun x hx => by obtain rfl := Option.some.inj hx; exact HMS.out ⟨b, off, none⟩ rfl⟩, rfl⟩
    case rest =>
      obtain ⟨am', cm', rfl, hMd, rfl⟩ := hcut
      have HMd := hid hMd
      clear hMd
      obtain ⟨L, hL⟩ : ∃ L, L = nm - f := ⟨_, rfl⟩
      rw [← hL]
      rw [← hL] at h16
      have HL := hid hL
      have hL1 : L ≤ 1048576 := by omega
      obtain ⟨nn, hnn⟩ : ∃ nn, nn = no - k := ⟨_, rfl⟩
      rw [← hnn]
      have HNN : Hid ((O.drop k).length = nn) := by rw [List.length_drop, hno.out]; exact hnn.symm
      clear hL hnn
      have HMdS := hid HMd.out.2
      have HMd1 := hid HMd.out.1
      obtain ⟨S1, G1, M1⟩ := made_map w SB none HS.out
      have HS1 := hid S1
      have HG1 := hid G1
      have HM1 := hid M1
      clear S1 G1 M1 HMd
      go_wp2
      go_loopw [65] (fun i wr => ∃ j : Nat, j ≤ L ∧ i = .int .i64 j ∧ w.grownBy wr (some SB) ∧ SeenIs wr SB (some w.heap.size) ∧ MapIs wr w.heap.size j (keysFrom O M f j)) (fun i _ => L - (intOf i).toNat)
      case atStart => exact ⟨0, Nat.zero_le _, rfl, HG1.out, HS1.out, HM1.out⟩
      case round =>
        clear HG1 HS1 HM1
        obtain ⟨j, hj, rfl, hG, hSr, hMr⟩ := hrel
        have HG := hid hG
        have HSr := hid hSr
        have HMr := hid hMr
        have hz := hG.size
        have csr : wr.cell? ⟨SB, 0, none⟩ = some (.map (some w.heap.size)) := cell_of_one' hSr
        have hSBr : SB < wr.heap.size := hSr.lt
        have HNr := hid (Bytes.grown HN.out hG (fun x hx e => HNS.out x hx (Option.some.inj e).symm))
        clear hSr hMr
        by_cases hlt : j < L
        · have c2r : wr.cell? ⟨PB, 2, none⟩ = some (.slice ao no co) := hG.cell c2 (fun e => hPS (Option.some.inj e))
          have hPBr : PB < wr.heap.size := World.block_lt_of_cell? wr _ c2r
          have hfl : f + j < M.length := by have := hnm.out; have := HL.out; omega
          obtain ⟨e1, e2, e3, e4⟩ := HW.out.nat (f + j) (by omega) hfl
          have hm := HMd1.out.grown hG (fun x hx e => HMdS.out x hx (Option.some.inj e).symm)
          obtain ⟨bm, om, rfl, hc⟩ : ∃ b off, am' = some ⟨b, off, none⟩ ∧ ∀ i, i < (M.drop f).length →
    wr.cell? ⟨b, off + i * 4, none⟩ = some (.int .i64 ((M.drop f).getD i (0, 0, 0, 0)).1) ∧ wr.cell? ⟨b, off + i * 4 + 1, none⟩ = some (.int .i64 ((M.drop f).getD i (0, 0, 0, 0)).2.1) ∧
    wr.cell? ⟨b, off + i * 4 + 2, none⟩ = some (.int .i64 ((M.drop f).getD i (0, 0, 0, 0)).2.2.1) ∧ wr.cell? ⟨b, off + i * 4 + 3, none⟩ = some (.int .i64 ((M.drop f).getD i (0, 0, 0, 0)).2.2.2) := by
            rcases hm with h | h
            · have := congrArg List.length h; simp at this; omega
            · exact h
          obtain ⟨d0, d1, d2, d3⟩ := hc j (by simp; omega)
          have em : (M.drop f).getD j (0, 0, 0, 0) = M.getD (f + j) (0, 0, 0, 0) := by simp [List.getD]
          rw [em] at d0 d1 d2 d3
          rw [e1] at d1
          rw [e2] at d2
          have HKS : Hid (keysFrom O M f (j + 1) = keysFrom O M f j ++ [part O (mk M (f + j)) (mv M (f + j))]) := keysFrom_succ O M f j
          generalize mk M (f + j) = kj at *
          generalize mv M (f + j) = vj at *
          generalize (M.getD (f + j) (0, 0, 0, 0)).1 = x0 at *
          generalize (M.getD (f + j) (0, 0, 0, 0)).2.2.2 = x3 at *
          have e4' : vj ≤ no := by have := hno.out; omega
          have HPL : Hid ((part O kj vj).length = vj - kj) := part_length O kj vj e3 e4
          have hpl : (part O kj vj).length ≤ 1073741824 := by rw [HPL.out]; omega
          clear hc hm em e1 e2 hfl e4
          have hlti : (j : Int) < (L : Int) := by omega
          obtain ⟨X, hX⟩ : ∃ X, X = Obj.cells #[.int .i64 x0, .int .i64 kj, .int .i64 vj, .int .i64 x3] 50 := ⟨_, rfl⟩
          obtain ⟨w16, put16, M16, G16⟩ := run_put (wr.alloc X).drew w.heap.size j (keysFrom O M f j) (World.ownsMap.alloc HMr.out X) (by omega) (part O kj vj) hpl
          have HM16 := hid M16
          have gX : wr.grownBy (wr.alloc X).drew (some w.heap.size) := grown_trans (World.grownBy_alloc wr X _) (grown_drew _ _)
          have g16 := grown_trans gX G16
          have HS16 := hid (HSr.out.grown g16 (by simp; omega))
          have HG16 : Hid (w.grownBy w16 (some SB)) := grown_new HG.out g16
          clear M16 G16 gX g16 hG
          by_cases hkc : kj = co
          · have hvk : kj = vj := by omega
            subst hvk
            have HPL0 : Hid ((part O kj kj).length = 0) := HPL.out.trans (by omega)
            clear HPL
            have HPL := HPL0
            clear HPL0
            have HXB : Bytes (wr.alloc X).drew ao (part O kj kj) := .inl (List.eq_nil_of_length_eq_zero HPL.out)
            subst hkc
            have s16 := run_string (wr.alloc X).drew ao (part O kj kj) _ 0 HPL.out HXB
            rw [hX] at s16 put16
            generalize strOfNums (part O kj kj) = s at s16 put16
            clear HXB hX
            go_wp2
            go_region
            all_goals go_wp2
            all_goals go_roundw
            all_goals first
              | (case rel => exact ⟨j + 1, by omega, by go_num, HG16.out, HS16.out, by rw [HKS.out]; exact HM16.out⟩)
              | skip
            all_goals first
              | (case measure => simp [intOf]; omega)
              | skip
          · have hkc' : ¬ co = kj := fun h => hkc h.symm
            obtain ⟨bo, oo, rfl, _, hBo⟩ : ∃ b off, ao = some ⟨b, off, none⟩ ∧ O.length ≤ co ∧ Bytes w ao O := by
              rcases HO.out with ⟨_, h0, h1⟩ | h
              · exact absurd (by have := hno.out; rw [h0] at this; simp at this; omega) hkc
              · exact h
            have HXB : Bytes (wr.alloc X).drew (some ⟨bo, oo + kj, none⟩) (part O kj vj) := Bytes.drew1 (((hBo.grown HG.out (fun x hx e => HOS.out x hx (Option.some.inj e).symm)).part kj (vj - kj)).alloc X)
            clear hkc hBo
            have s16 := run_string (wr.alloc X).drew (some ⟨bo, oo + kj, none⟩) (part O kj vj) _ (co - kj) HPL.out HXB
            rw [hX] at s16 put16
            generalize strOfNums (part O kj vj) = s at s16 put16
            clear HXB hX
            go_wp2
            go_region
            all_goals go_wp2
            all_goals go_roundw
            all_goals first
              | (case rel => exact ⟨j + 1, by omega, by go_num, HG16.out, HS16.out, by rw [HKS.out]; exact HM16.out⟩)
              | skip
            all_goals first
              | (case measure => simp [intOf]; omega)
              | skip
        · have hjL : j = L := by omega
          subst hjL
          have hnl2 : (O.drop k).length ≤ 1073741824 := by simp; have := hno.out; omega
          rw [← HL.out] at hr
          have s1 := run_string wr.drew an (O.drop k) nn cn HNN.out (Bytes.drew1 HNr.out)
          have s2 := run_string (wr.alloc (.cells #[] 36)).drew an (O.drop k) nn cn HNN.out (Bytes.drew1 (Bytes.alloc HNr.out _))
          have l1 := run_look wr.drew w.heap.size j _ HMr.out (O.drop k) hnl2
          have l2 := run_look (wr.alloc (.cells #[] 36)).drew w.heap.size j _ (World.ownsMap.alloc HMr.out _) (O.drop k) hnl2
          rw [hr.out] at l1 l2
          generalize strOfNums (O.drop k) = s at s1 s2 l1 l2
          clear hG
          go_upto_region 18 with fail
          go_cut [16] from 17 (fun v wc => v = .bool r ∧ Below wr.heap.size wr wc)
          case first =>
            go_region
            all_goals go_wp2_with fail
            all_goals go_meet
            all_goals exact ⟨rfl, ((Below.refl _ _).alloc (Nat.le_refl _) _).drew⟩
          case rest =>
            obtain ⟨rfl, hB⟩ := hcut
            have csc : wc.cell? ⟨SB, 0, none⟩ = some (.map (some w.heap.size)) := by rw [hB.cell (p := ⟨SB, 0, none⟩) hSBr]; exact csr
            have hAc := HMr.out.below hB
            have hNc := Bytes.below HNr.out hB
            have s3 := run_string wc.drew an (O.drop k) nn cn HNN.out (Bytes.drew1 hNc)
            obtain ⟨w2, hput, hM2, hg2⟩ := run_put wc.drew w.heap.size j _ hAc (by omega) (O.drop k) hnl2
            have hgw := grown_trans (grown_trans (grown_of_below hB (some w.heap.size)) (grown_drew wc (some w.heap.size))) hg2
            have HM2 : Hid (MapIs w2 w.heap.size (nm - f + 1) (keysFrom O M f (nm - f) ++ [O.drop k])) := by rw [← HL.out]; exact hM2
            have HG2 : Hid (w.grownBy w2 (some SB)) := grown_new HG.out hgw
            have HS2 := hid (HSr.out.grown hgw (by simp; omega))
            have hSBc : SB < wc.heap.size := Nat.lt_of_lt_of_le hSBr hB.size
            generalize strOfNums (O.drop k) = s' at s3 hput
            clear s1 s2 l1 l2 hM2 hg2 hgw hAc hNc hB c2 c3
            go_wp2
            go_region
            all_goals go_wp2
            all_goals go_ret
            all_goals exact ⟨rfl, HS2.out, HM2.out, HG2.out⟩

end Go.Proofs.Qxb6604022a
