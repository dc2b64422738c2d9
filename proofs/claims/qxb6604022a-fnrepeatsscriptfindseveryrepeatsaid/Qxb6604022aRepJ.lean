/-
  THE SCRIPT, whole.
-/
import Derived.Test.Qxb6604022aRepI
import Derived.Deep.CutBlock
import Derived.Outline
namespace Go.Proofs.Qxb6604022a
open Go.ChangeShapes Go.WideShapes Go.ChangeAt Go.RowKit
set_option linter.unusedVariables false

theorem Byt.append {x y : List Int} (h : Byt x) (k : Byt y) : Byt (x ++ y) := fun c hc => by
  rcases List.mem_append.1 hc with h' | h'
  · exact h c h'
  · exact k c h'
theorem byt_one (c : Int) (h0 : 0 ≤ c) (h1 : c ≤ 255) : Byt [c] := fun d hd => by
  obtain rfl := List.mem_singleton.1 hd
  exact ⟨h0, h1⟩
theorem Strs.lt {w : World} {b off : Nat} {S : List ByteArray} (h : Strs w (some ⟨b, off, none⟩) S) (hz : 0 < S.length) : b < w.heap.size := by
  obtain ⟨b', off', he, hc⟩ := h.open hz
  obtain ⟨rfl, rfl⟩ : b = b' ∧ off = off' := by simpa using he
  exact World.block_lt_of_cell? w _ (hc 0 hz)
theorem Strs.belowB {w w' : World} {B0 : Nat} {a : Option Addr} {S : List ByteArray} (h : Strs w a S) (hB : B0 = w.heap.size) (hb : Below B0 w w') : Strs w' a S := by subst hB; exact h.below hb

theorem Own.take {w : World} {a : Option Addr} {n c : Nat} {xs : List Int} (h : Own w (.slice a n c) xs) (m : Nat) (hm : m ≤ xs.length) : Own w (.slice a m c) (xs.take m) := by
  have hl : (xs.take m).length = m := by simp; omega
  refine ⟨by rw [cells_length, hl]; omega, ?_⟩
  rcases h.2 with ⟨hv, h0⟩ | ⟨g, cap, cur, hv, hb, hg, hn, hmx, hs, ht⟩
  · simp only [Value.slice.injEq] at hv
    obtain ⟨rfl, rfl, rfl⟩ := hv
    have : m = 0 := by omega
    subst this
    exact .inl ⟨rfl, by simp⟩
  · simp only [Value.slice.injEq] at hv
    obtain ⟨rfl, rfl, rfl⟩ := hv
    refine .inr ⟨g, c, cur, by rw [hl], hb, hg, by omega, hmx, hs, ?_⟩
    rw [hl, Nat.mul_one]
    rw [Nat.mul_one] at ht
    have e : Qxb6604022a.cells (xs.take m) = (Qxb6604022a.cells xs).take m := by simp [Qxb6604022a.cells, List.map_take]
    rw [e, ← ht, List.take_take, Nat.min_eq_left hm]
theorem St.cut {B0 : Nat} {w3 w : World} {a : Option Addr} {n c : Nat} {vm : Value} {O : List Int} {M : List Mem} (h : St B0 w3 w (.slice a n c) O vm M) (m : Nat) (hm : m ≤ O.length) : St B0 w3 w (.slice a m c) (O.take m) vm M :=
  ⟨h.below, h.size, h.own.take m hm, h.ownM, fun g hg => h.po g (by rw [← hg]; cases a <;> rfl), h.pm⟩
theorem St.drewN {B0 : Nat} {w3 w : World} {vo vm : Value} {O : List Int} {M : List Mem} (h : St B0 w3 w vo O vm M) (n : Nat) : St B0 w3 (w.drewN n) vo O vm M :=
  h.grown (grown_of_below (below_drewN (Below.refl _ _) n) none) (fun g hg => nomatch hg) (none_or fun g _ e => nomatch e) (none_or fun g _ e => nomatch e)
theorem SeenG.drewN {w : World} {B0 SB : Nat} {pn : Prop} {ps : Nat → List (List Int) → Prop} (h : SeenG w B0 SB pn ps) (n : Nat) : SeenG (w.drewN n) B0 SB pn ps :=
  h.none (grown_of_below (below_drewN (Below.refl _ _) n) .none)
theorem drop_name (O X : List Int) (p : Nat) (h : O.length = p) : (O ++ X).drop p = X := by subst h; simp
theorem take_back (O X Y : List Int) (p : Nat) (h : O.length = p) : (O ++ X ++ Y).take p = O := by subst h; simp
theorem mem_take_succ (S : List ByteArray) (i : Nat) (h : i < S.length) (s : ByteArray) (hs : S.getD i ByteArray.empty = s) (x : ByteArray) : x ∈ S.take (i + 1) ↔ x ∈ S.take i ∨ x = s := by
  rw [List.take_add_one, List.mem_append]
  simp [List.getD, h] at hs
  simp [h, hs]
theorem mem_take_of (S : List ByteArray) (i j : Nat) (hj : j < i) (hi : i ≤ S.length) : S.getD j ByteArray.empty ∈ S.take i := by
  refine List.mem_iff_getElem?.2 ⟨j, ?_⟩
  rw [List.getElem?_take_of_lt hj]
  simp [List.getD, show j < S.length by omega]
theorem mem_take_ex (S : List ByteArray) (i : Nat) (hi : i ≤ S.length) (s : ByteArray) (h : s ∈ S.take i) : ∃ j, j < i ∧ S.getD j ByteArray.empty = s := by
  obtain ⟨j, hj⟩ := List.mem_iff_getElem?.1 h
  have hlt : j < (S.take i).length := (List.getElem?_eq_some_iff.1 hj).1
  have hji : j < i := by simp at hlt; omega
  refine ⟨j, hji, ?_⟩
  rw [List.getElem?_take_of_lt hji] at hj
  simp [List.getD, hj]
theorem str_ne (s t : ByteArray) (h : ¬ s = t) : (s.toList == t.toList) = false := by
  have : ¬ s.data.toList = t.data.toList := fun e => h (by cases s; cases t; simp at e; simp [e])
  simpa [ByteArray.toList_eq] using this

set_option maxRecDepth 100000 in
set_option maxHeartbeats 8000000 in
theorem script_walk (a0 a1 : Option Addr) (So Sk : List ByteArray) (n0 n1 c0 c1 : Nat) (w : World) (hn0 : Hid (So.length = n0)) (hn1 : Hid (Sk.length = n1)) (h0 : Strs w a0 So) (h1 : Strs w a1 Sk)
    (hl0 : n0 ≤ 9223372036854775807) (hl1 : n1 ≤ 9223372036854775807) (hs0 : ∀ s ∈ So, s.size ≤ 9223372036854775807) (hs1 : ∀ s ∈ Sk, s.size ≤ 9223372036854775807) (hnil0 : a0 = none → So = []) (hnil1 : a1 = none → Sk = []) :
    Calls Try.prog 6 #[.slice a0 n0 c0, .slice a1 n1 c1] w fun e w' => e = .returned (.bool true) ∧ Below w.heap.size w w' := by
  have H0 := hid h0
  have H1 := hid h1
  have HS0 := hid hs0
  have HS1 := hid hs1
  clear h0 h1 hs0 hs1
  go_enter Try.func6, Try.ntmps6
  go_wp2_with fail
  refine (zz19_any a0 a1 So Sk n0 n1 c0 c1 _ hn0 hn1 H0.out H1.out hl0 hl1 HS0.out HS1.out).mono ?_
  rintro e w' ⟨b, rfl, rfl, hb⟩
  cases b with
  | false =>
    go_wp2_with fail
    go_ret
    exact ⟨rfl, Below.refl _ _⟩
  | true =>
    have htot := hb rfl
    clear hb
    by_cases hl0' : 1024 < n0
    · go_wp2_with fail
      go_ret
      exact ⟨rfl, Below.refl _ _⟩
    by_cases hl1' : 1024 < n1
    · go_wp2_with fail
      go_ret
      exact ⟨rfl, Below.refl _ _⟩
    obtain ⟨t0, ht0⟩ : ∃ t, t = tot So n0 := ⟨_, rfl⟩
    obtain ⟨t1, ht1⟩ : ∃ t, t = tot Sk n1 := ⟨_, rfl⟩
    have HT0 := hid ht0
    have HT1 := hid ht1
    rw [← ht0, ← ht1] at htot
    obtain ⟨r0, hr0⟩ : ∃ r : Nat, r = 16 * n0 + t0 := ⟨_, rfl⟩
    obtain ⟨r1, hr1⟩ : ∃ r : Nat, r = 16 * n1 + t1 := ⟨_, rfl⟩
    have HR0 : Hid (((16 * n0 + tot So n0 : Nat) : Int) = (r0 : Int)) := by rw [← ht0, ← hr0]; exact hid rfl
    have HR1 : Hid (((16 * n1 + tot Sk n1 : Nat) : Int) = (r1 : Int)) := by rw [← ht1, ← hr1]; exact hid rfl
    have hr0l : r0 ≤ 1073741824 := by omega
    have hr1l : r1 ≤ 1073741824 := by omega
    clear ht0 ht1 hr0 hr1
    go_wp2_with fail
    refine (strbytes_any a0 So n0 c0 _ hn0 H0.out (by omega) (by rw [← HT0.out]; omega) _ HR0).mono ?_
    rintro e w' ⟨rfl, rfl⟩
    go_wp2_with fail
    refine (strbytes_any a1 Sk n1 c1 _ hn1 H1.out (by omega) (by rw [← HT1.out]; omega) _ HR1).mono ?_
    rintro e w' ⟨rfl, rfl⟩
    by_cases hsum : 1048576 < r0 + r1
    · go_wp2_with fail
      go_ret
      exact ⟨rfl, Below.refl _ _⟩
    go_wp2_with fail
    refine (sclone_is a0 So n0 c0 _ hn0 H0.out (by omega) hnil0).mono ?_
    rintro e w1 ⟨b0, rfl, hS0, hB1⟩
    have HS0' := hid hS0
    have HB1 := hid hB1
    have H1' := hid (H1.out.below hB1)
    clear hS0 hB1
    go_wp2_with fail
    refine (sclone_is a1 Sk n1 c1 _ hn1 H1'.out (by omega) hnil1).mono ?_
    rintro e w3 ⟨b1, rfl, hS1, hB2⟩
    have HSo := hid (HS0'.out.below hB2)
    have HSk := hid hS1
    have HB3 := hid (HB1.out.trans (hB2.mono HB1.out.size))
    obtain ⟨B0, hB0⟩ : ∃ B0, B0 = w3.heap.size := ⟨_, rfl⟩
    have HB0 := hid hB0
    have HSt0 : Hid (St B0 w3 w3 (.slice none 0 0) [] (.slice none 0 0) []) := ⟨Below.refl _ _, by omega, Own.nil _, OwnM.nil _, (fun g hg => nomatch hg), (fun g hg => nomatch hg)⟩
    clear hS1 hB2 hB0 HS0' H1' H0 H1 hsum hr0l hr1l HR0 HR1 HB1 HS0 HS1
    go_wp2
    go_loopw [5, 6, 7] (fun v5 v6 i wr => ∃ (k no nm : Nat) (ao : Option Addr) (co : Nat) (am : Option Addr) (cm : Nat) (O : List Int) (M : List Mem), k ≤ n0 ∧ i = .int .i64 k ∧ v5 = .slice ao no co ∧ v6 = .slice am nm cm ∧
        St B0 w3 wr (.slice ao no co) O (.slice am nm cm) M ∧ O.length = no ∧ M.length = nm ∧ nm = k ∧ no = 2 * k + tot So k ∧ Byt O) (fun _ _ i _ => n0 - (intOf i).toNat)
    case atStart => exact ⟨0, 0, 0, none, 0, none, 0, [], [], Nat.zero_le _, rfl, rfl, rfl, HSt0.out, rfl, rfl, rfl, by rw [tot_zero], fun c hc => nomatch hc⟩
    case round =>
      clear HSt0
      obtain ⟨k, no, nm, ao, co, am, cm, O, M, hk, rfl, rfl, rfl, hSt, hO, hM, hnk, hno, hby⟩ := hrel
      have HNK := hid hnk
      have hnml : nm ≤ 1024 := by omega
      have HSt := hid hSt
      have HO := hid hO
      have HM := hid hM
      have HNO := hid hno
      have HBY := hid hby
      have HG := hid (Grow.start hSt.own)
      have hnol : no ≤ 2097152 := by
        have h2 := tot_le So k
        have h3 := hn0.out
        have h4 := HT0.out
        rw [h3] at h2
        omega
      clear hSt hO hM hno hby hnk
      by_cases hlt : k < n0
      · have hkl : k < So.length := by have := hn0.out; omega
        obtain ⟨bb, oo, rfl, hc⟩ := (HSo.out.belowB HB0.out HSt.out.below).open (by omega)
        have hck := hc k hkl
        have hbb := HSo.out.lt (by omega)
        have HNE : Hid (some bb ≠ (Value.slice ao no co).ownBlock) := fun e => absurd (HSt.out.po bb e.symm) (by have := HB0.out; omega)
        have hsl := size_le_tot So k hkl
        obtain ⟨s, hs⟩ : ∃ s, So.getD k ByteArray.empty = s := ⟨_, rfl⟩
        rw [hs] at hck hsl
        rw [hn0.out, ← HT0.out] at hsl
        have HT := hid (tot_succ So k hkl s hs)
        have hss : s.size ≤ 1048576 := by omega
        clear hc hs hkl hsl
        obtain ⟨p1, hp1⟩ : ∃ p, p = no + 1 := ⟨_, rfl⟩
        obtain ⟨p2, hp2⟩ : ∃ p, p = p1 + s.size := ⟨_, rfl⟩
        obtain ⟨p3, hp3⟩ : ∃ p, p = p2 + 1 := ⟨_, rfl⟩
        obtain ⟨k1, hk1⟩ : ∃ p, p = nm + 1 := ⟨_, rfl⟩
        have HP1 : Hid ((O ++ [96]).length = p1) := by rw [List.length_append, HO.out, hp1]; exact hid rfl
        have HP2 : Hid ((O ++ [96] ++ strInts s).length = p2) := by rw [List.length_append, HP1.out, strInts_length, hp2]; exact hid rfl
        have HP3 : Hid ((O ++ [96] ++ strInts s ++ [246]).length = p3) := by rw [List.length_append, HP2.out, hp3]; exact hid rfl
        have HK1 : Hid (M.length + 1 = k1) := by rw [HM.out, hk1]; exact hid rfl
        have HNO2 : Hid (p3 = 2 * (k + 1) + tot So (k + 1)) := by rw [HT.out, hp3, hp2, hp1, HNO.out]; exact hid (by omega)
        have HKE : Hid (k1 = k + 1) := by rw [hk1, HNK.out]; exact hid rfl
        have hp1l : p1 ≤ 8388608 := by omega
        have hp2l : p2 ≤ 8388608 := by omega
        have hp3l : p3 ≤ 8388608 := by omega
        have hk1l : k1 ≤ 1025 := by omega
        have HBY3 : Hid (Byt (O ++ [96] ++ strInts s ++ [246])) := ((HBY.out.append (byt_one 96 (by omega) (by omega))).append (strInts_byt s)).append (byt_one 246 (by omega) (by omega))
        clear hp1 hp2 hp3 hk1
        go_wp2_with (first
          | (at_builtin; refine wp_app_is rfl (.tmp 50) (.tmp 51) rfl rfl (HG.out.alloc _) rfl [96] rfl (Bytes.new _ _) (fun h => nomatch h) p1 HP1.out (by omega) ?_; intro ao1 co1 w11 hG1; have hck1 := hG1.kept.cell hck HNE.out)
          | (at_builtin; refine wp_app_string_is rfl (.tmp 55) (.tmp 59) rfl rfl hG1 s rfl p2 HP2.out (by omega) ?_; intro ao2 co2 w12 hG2)
          | (at_builtin; refine wp_app_is rfl (.tmp 63) (.tmp 64) rfl rfl (hG2.alloc _) rfl [246] rfl (Bytes.new _ _) (fun h => nomatch h) p3 HP3.out (by omega) ?_; intro ao3 co3 w13 hG3; have hSt3 := HSt.out.out hG3)
          | (at_builtin; (refine wp_appM_is rfl (.tmp 66) (.tmp 73) rfl rfl (hSt3.ownM.alloc _) rfl (((no : Nat) : Int), ((p1 : Nat) : Int), ((p2 : Nat) : Int), ((p3 : Nat) : Int)) (new_member _ _) k1 HK1.out (by omega) ?_); intro am4 cm4 w14 hO4 hg4 hp4))
        go_roundw
        case rel => exact ⟨k + 1, p3, k1, ao3, co3, am4, cm4, _, _, by omega, by go_num, rfl, rfl, (hSt3.alloc _).ms hO4 hg4 hp4, HP3.out, by simp; exact HK1.out, HKE.out, HNO2.out, HBY3.out⟩
        case measure => simp [intOf]; omega
      · have hkn : k = n0 := by omega
        have HKN := hid hkn
        clear hkn
        have HSee : Hid (SeenG (wr.alloc (.cells #[.map none] 35)) B0 wr.heap.size (([] : List ByteArray).length ≤ 16) (SetIs [] 0)) :=
          ⟨none, by unfold SeenIs; exact heap_alloc_new wr _, HSt.out.size, .inl ⟨rfl, by simp⟩⟩
        have HH0 : Hid (Holds O M nm []) := ⟨by rw [HM.out]; rfl, fun i h1 h2 => absurd h2 (by rw [HM.out]; omega), rfl⟩
        have HNO2 : Hid (no ≤ 2 * n0 + t0) := by rw [HNO.out, HKN.out, ← HT0.out]; exact Nat.le_refl (2 * n0 + t0)
        have HSt1 := hid (HSt.out.alloc (.cells #[.map none] 35))
        clear HG
        go_wp2
        go_loopw [5, 6, 13] (fun v5 v6 i wq => ∃ (k no nm' : Nat) (ao : Option Addr) (co : Nat) (am : Option Addr) (cm : Nat) (O : List Int) (M : List Mem) (D : List ByteArray), k ≤ n1 ∧ i = .int .i64 k ∧ v5 = .slice ao no co ∧ v6 = .slice am nm' cm ∧
          St B0 w3 wq (.slice ao no co) O (.slice am nm' cm) M ∧ O.length = no ∧ M.length = nm' ∧ no ≤ 2 * n0 + t0 + 2 * k + tot Sk k ∧ Byt O ∧ Holds O M nm D ∧ D.length ≤ k ∧ (∀ s, s ∈ D ↔ s ∈ Sk.take k) ∧ SeenG wq B0 wr.heap.size (D.length ≤ 16) (SetIs D k)) (fun _ _ i _ => n1 - (intOf i).toNat)
        case atStart => exact ⟨0, no, nm, ao, co, am, cm, O, M, [], Nat.zero_le _, rfl, rfl, rfl, HSt1.out, HO.out, HM.out, by rw [tot_zero]; exact HNO2.out, HBY.out, HH0.out, Nat.le_refl _, (fun s => by simp), HSee.out⟩
        case round =>
          clear HSee HH0 HNO2 HSt1 HSt HO HM HNO HBY
          obtain ⟨i, no2, nm2, ao2, co2, am2, cm2, O2, M2, D, hi, rfl, rfl, rfl, hSt, hO, hM, hno, hby, hH, hDl, hD, hSee⟩ := hrel
          have HSt := hid hSt
          have HO := hid hO
          have HM := hid hM
          have HNO := hid hno
          have HBY := hid hby
          have HH := hid hH
          have HD := hid hD
          have HSee := hid hSee
          have HG := hid (Grow.start hSt.own)
          have hnol : no2 ≤ 4194304 := by
            have h2 := tot_le Sk i
            have h3 := hn1.out
            have h4 := HT1.out
            rw [h3] at h2
            omega
          have hnm2 : nm2 ≤ 2048 := by have h1 := hH.len; omega
          clear hSt hO hM hno hby hH hD hSee
          by_cases hlt : i < n1
          · have hil : i < Sk.length := by have := hn1.out; omega
            obtain ⟨bk, ok, rfl, hc⟩ := (HSk.out.belowB HB0.out HSt.out.below).open (by omega)
            have hck := hc i hil
            have hbk := HSk.out.lt (by omega)
            have HNE : Hid (some bk ≠ (Value.slice ao2 no2 co2).ownBlock) := fun e => absurd (HSt.out.po bk e.symm) (by have := HB0.out; omega)
            have hsl := size_le_tot Sk i hil
            obtain ⟨s, hs⟩ : ∃ s, Sk.getD i ByteArray.empty = s := ⟨_, rfl⟩
            rw [hs] at hck hsl
            rw [hn1.out, ← HT1.out] at hsl
            have HT := hid (tot_succ Sk i hil s hs)
            have HTS := hid (mem_take_succ Sk i hil s hs)
            have HSI := hid hs
            have hss : s.size ≤ 1048576 := by omega
            clear hc hs hsl
            obtain ⟨p1, hp1⟩ : ∃ p, p = no2 + 1 := ⟨_, rfl⟩
            obtain ⟨p2, hp2⟩ : ∃ p, p = p1 + s.size := ⟨_, rfl⟩
            obtain ⟨p3, hp3⟩ : ∃ p, p = p2 + 1 := ⟨_, rfl⟩
            obtain ⟨q1, hq1⟩ : ∃ p, p = nm2 + 1 := ⟨_, rfl⟩
            have HP1 : Hid ((O2 ++ [96]).length = p1) := by rw [List.length_append, HO.out, hp1]; exact hid rfl
            have HP2 : Hid ((O2 ++ [96] ++ strInts s).length = p2) := by rw [List.length_append, HP1.out, strInts_length, hp2]; exact hid rfl
            have HP3 : Hid ((O2 ++ [96] ++ strInts s ++ [246]).length = p3) := by rw [List.length_append, HP2.out, hp3]; exact hid rfl
            have HQ1 : Hid (M2.length + 1 = q1) := by rw [HM.out, hq1]; exact hid rfl
            have hp1l : p1 ≤ 8388608 := by omega
            have hp2l : p2 ≤ 8388608 := by omega
            have hp3l : p3 ≤ 8388608 := by omega
            have hq1l : q1 ≤ 4096 := by omega
            have hp12 : p1 ≤ p2 := by omega
            have hnp2 : no2 ≤ p2 := by omega
            have HNO3 : Hid (p3 ≤ 2 * n0 + t0 + 2 * (i + 1) + tot Sk (i + 1)) := by rw [HT.out]; have := HNO.out; exact hid (by omega)
            have HNO4 : Hid (no2 ≤ 2 * n0 + t0 + 2 * (i + 1) + tot Sk (i + 1)) := by rw [HT.out]; have := HNO.out; exact hid (by omega)
            have HBY2 : Hid (Byt (O2 ++ [96] ++ strInts s)) := (HBY.out.append (byt_one 96 (by omega) (by omega))).append (strInts_byt s)
            have HBY3 : Hid (Byt (O2 ++ [96] ++ strInts s ++ [246])) := HBY2.out.append (byt_one 246 (by omega) (by omega))
            have HH2 : Hid (Holds (O2 ++ [96] ++ strInts s) M2 nm D) := (HH.out.ext [96]).ext (strInts s)
            have HNM : Hid ((O2 ++ [96] ++ strInts s).drop p1 = strInts s) := drop_name _ _ p1 HP1.out
            have HPART : Hid (part (O2 ++ [96] ++ strInts s) p1 p2 = strInts s) := by
              unfold part
              rw [HNM.out]
              exact List.take_of_length_le (by rw [strInts_length]; omega)
            have HBACK : Hid ((O2 ++ [96] ++ strInts s).take no2 = O2) := take_back O2 [96] (strInts s) no2 HO.out
            obtain ⟨d, hd⟩ : ∃ d : Bool, (d = true ↔ s ∈ D) := by
              by_cases h : s ∈ D
              · exact ⟨true, by simp [h]⟩
              · exact ⟨false, by simp [h]⟩
            have HDr := hid hd
            clear hp1 hp2 hp3 hq1 hd
            go_upto_block 4 with (first
              | (at_builtin; refine wp_app_is rfl (.tmp 85) (.tmp 86) rfl rfl (HG.out.alloc _) rfl [96] rfl (Bytes.new _ _) (fun h => nomatch h) p1 HP1.out (by omega) ?_; intro ao3 co3 w21 hG1; have hck1 := hG1.kept.cell hck HNE.out)
              | (at_builtin; refine wp_app_string_is rfl (.tmp 90) (.tmp 94) rfl rfl hG1 s rfl p2 HP2.out (by omega) ?_; intro ao4 co4 w22 hG2; have hSt2 := HSt.out.out hG2; have hSee2 := HSee.out.out HSt.out.own hG2.kept)
              | (go_at_call 18; (refine (zzrep_seen ao4 (O2 ++ [96] ++ strInts s) p2 co4 am2 M2 nm2 cm2 _ nm p1 i B0 D s w3 _ HP2 HM hSt2 HBY2.out HH2.out hSee2 (by omega) HNM.out (by omega) (by omega) (by omega) hDl d HDr).mono ?_); rintro e w23 ⟨rfl, hSee3, hSt3⟩))
            obtain ⟨SB, hSB⟩ : ∃ SB, SeenG w23 B0 SB (D.length < 16) (SetMid D s i) ∧ Hid (∀ W pn ps, SeenG W B0 SB pn ps → SeenG W B0 _ pn ps) := ⟨_, hSee3, fun _ _ _ h => h⟩
            have HSee3 := hid hSB.1
            have HBackS := hid hSB.2
            have HSt3 := hid hSt3
            have hcap : p2 ≤ co4 := by
              obtain ⟨a', c', hv, hle, _⟩ := hSt3.own.shape
              simp only [Value.slice.injEq] at hv
              obtain ⟨_, _, rfl⟩ := hv
              have := HP2.out; omega
            clear hSee2 hSee3 hSt2 hSt3 hG1 hG2 hck hck1 hSB HSee HSt HG
            go_cut [17] from 77 to 135 (fun v wc => v = .bool d ∧ St B0 w3 wc (.slice ao4 p2 co4) (O2 ++ [96] ++ strInts s) (.slice am2 nm2 cm2) M2 ∧ SeenG wc B0 SB (D.length < 16) (SetMid D s i))
            case first =>
              go_wp2
              go_loopw [17, 18] (fun v j wx => ∃ jj : Nat, jj ≤ i ∧ v = .bool false ∧ j = .int .i64 jj ∧ St B0 w3 wx (.slice ao4 p2 co4) (O2 ++ [96] ++ strInts s) (.slice am2 nm2 cm2) M2 ∧ SeenG wx B0 SB (D.length < 16) (SetMid D s i) ∧ ∀ t, t < jj → Sk.getD t ByteArray.empty ≠ s) (fun _ j _ => i - (intOf j).toNat)
              case atStart => exact ⟨0, Nat.zero_le _, rfl, rfl, HSt3.out, HSee3.out, fun t ht => absurd ht (by omega)⟩
              case round =>
                obtain ⟨jj, hjj, rfl, rfl, hStx, hSeex, hne⟩ := hrel
                have HStx := hid hStx
                have HSeex := hid hSeex
                have HNEx := hid hne
                clear hSeex hne
                by_cases hlt3 : jj < i
                · obtain ⟨bk', ok', hbk', hc⟩ := (HSk.out.belowB HB0.out hStx.below).open (by omega)
                  obtain ⟨rfl, rfl⟩ : bk = bk' ∧ ok = ok' := by simpa using hbk'
                  have d1 := hc jj (by omega)
                  have d2 := hc i hil
                  rw [HSI.out] at d2
                  obtain ⟨s', hs'⟩ : ∃ s', Sk.getD jj ByteArray.empty = s' := ⟨_, rfl⟩
                  rw [hs'] at d1
                  have HS' := hid hs'
                  have hjn : (jj : Int) < (n1 : Int) := by omega
                  have hin : (i : Int) < (n1 : Int) := by omega
                  clear hc hbk' hs' hStx
                  by_cases heq : s' = s
                  · subst heq
                    have HDT : Hid (d = true) := HDr.out.2 ((HD.out s').2 (by rw [← HS'.out]; exact mem_take_of Sk i jj hlt3 (by omega)))
                    go_wp2
                    go_quiet (fail)
                    go_wp2
                    go_meet
                    case rel => exact ⟨by rw [HDT.out], HStx.out.drewN _, HSeex.out.drewN _⟩
                  · have hbq : (s'.toList == s.toList) = false := str_ne s' s heq
                    have HNE2 : Hid (∀ t, t < jj + 1 → Sk.getD t ByteArray.empty ≠ s) := fun t ht => by
                      by_cases htj : t = jj
                      · subst htj; rw [HS'.out]; exact heq
                      · exact HNEx.out t (by omega)
                    clear heq
                    go_wp2
                    go_quiet (fail)
                    go_wp2
                    go_roundw
                    case rel => exact ⟨jj + 1, by omega, rfl, by go_num, HStx.out.drewN _, HSeex.out.drewN _, HNE2.out⟩
                    case measure => simp [intOf]; omega
                · have HDF : Hid (d = false) := by
                    cases hdd : d with
                    | false => exact hid rfl
                    | true =>
                      obtain ⟨t, ht, hts⟩ := mem_take_ex Sk i (by omega) s ((HD.out s).1 (HDr.out.1 hdd))
                      exact absurd hts (HNEx.out t (by omega))
                  clear hStx
                  go_wp2
                  go_meet
                  case rel => exact ⟨by rw [HDF.out], HStx.out, HSeex.out⟩
            case rest =>
              obtain ⟨rfl, hSt4, hSee4⟩ := hcut
              have HSt4 := hid hSt4
              have HSee4 := hid hSee4
              have HG4 := hid (Grow.start hSt4.own)
              clear hSt4 hSee4 HSt3 HSee3
              cases d with
              | true =>
                have hsD : s ∈ D := HDr.out.1 rfl
                have HStc : Hid (St B0 w3 wc (.slice ao4 no2 co4) O2 (.slice am2 nm2 cm2) M2) := by
                  have := HSt4.out.cut no2 (by rw [HP2.out]; exact hnp2)
                  rw [HBACK.out] at this
                  exact this
                have HSeeN := hid (HBackS.out _ _ _ (HSee4.out.imp (fun h => (Nat.le_of_lt h : D.length ≤ 16)) (fun n A h => h.old hsD)))
                have HDN : Hid (∀ x, x ∈ D ↔ x ∈ Sk.take (i + 1)) := fun x => by
                  rw [HTS.out x, ← HD.out x]
                  constructor
                  · exact .inl
                  · rintro (h | rfl)
                    · exact h
                    · exact hsD
                clear hsD
                go_wp2
                go_roundw
                case rel => exact ⟨i + 1, no2, nm2, ao4, co4, am2, cm2, O2, M2, D, by omega, by go_num, rfl, rfl, HStc.out, HO.out, HM.out, HNO4.out, HBY.out, HH.out, by omega, HDN.out, HSeeN.out⟩
                case measure => simp [intOf]; omega
              | false =>
                have hsD : ¬ s ∈ D := fun h => by have := HDr.out.2 h; cases this
                have HDN : Hid (∀ x, x ∈ D ++ [s] ↔ x ∈ Sk.take (i + 1)) := fun x => by
                  rw [HTS.out x, ← HD.out x, List.mem_append, List.mem_singleton]
                have HHN : Hid (Holds (O2 ++ [96] ++ strInts s ++ [246]) (M2 ++ [(((no2 : Nat) : Int), ((p1 : Nat) : Int), ((p2 : Nat) : Int), ((p3 : Nat) : Int))]) nm (D ++ [s])) :=
                  (HH2.out.snoc s _ _ p1 p2 hp12 (by rw [HP2.out]; exact Nat.le_refl _) HPART.out).ext [246]
                have HDL : Hid ((D ++ [s]).length ≤ i + 1) := by rw [List.length_append]; simp; exact hid hDl
                clear hsD
                go_wp2_with (first
                  | (at_builtin; refine wp_app_is rfl (.tmp 124) (.tmp 125) rfl rfl (HG4.out.alloc _) rfl [246] rfl (Bytes.new _ _) (fun h => nomatch h) p3 HP3.out (by omega) ?_; intro ao5 co5 w25 hG5; have hSt5 := HSt4.out.out hG5; have hSee5 := HSee4.out.out HSt4.out.own hG5.kept)
                  | (at_builtin; (refine wp_appM_is rfl (.tmp 127) (.tmp 134) rfl rfl (hSt5.ownM.alloc _) rfl (((no2 : Nat) : Int), ((p1 : Nat) : Int), ((p2 : Nat) : Int), ((p3 : Nat) : Int)) (new_member _ _) q1 HQ1.out (by omega) ?_); intro am6 cm6 w26 hO6 hg6 hp6))
                have hSt6 := (hSt5.alloc _).ms hO6 hg6 hp6
                have hSee6 := (hSee5.none (World.grownBy_alloc _ _ _)).ms (hSt5.ownM.alloc _) hg6
                have HSeeN := hid (HBackS.out _ _ _ (hSee6.imp (fun h => (by rw [List.length_append]; simp; omega : (D ++ [s]).length ≤ 16)) (fun n A h => h.new)))
                go_roundw
                case rel => exact ⟨i + 1, p3, q1, ao5, co5, am6, cm6, _, _, D ++ [s], by omega, by go_num, rfl, rfl, hSt6, HP3.out, by simp; exact HQ1.out, HNO3.out, HBY3.out, HHN.out, HDL.out, HDN.out, HSeeN.out⟩
                case measure => simp [intOf]; omega
          · go_wp2
            go_ret
            exact ⟨rfl, HB3.out.trans (HSt.out.below.mono (by have := HB0.out; have := HB3.out.size; omega))⟩

end Go.Proofs.Qxb6604022a
