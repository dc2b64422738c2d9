/-
  THE CODE's OWN ESCAPE.
-/
import Derived.Test.Qxb6604022aWalkB
import Derived.Deep.RegionLaw
import Derived.RegionTactic
import Derived.BigRegion
namespace Go.Proofs.Qxb6604022a
open Go.ChangeShapes Go.WideShapes Go.ChangeAt Go.RowKit
set_option linter.unusedVariables false

/-- APPEND OF A SLICE OF BYTES, as one step of a region that draws its order. -/
theorem step_app {w : World} {ops : Array Oper} {o : Oper} {a : Act} {K : Act → World → Prop} {Q : Exit → Act → World → Prop} {E : Prop} (hgd : o.guard = none) (s x : Operand)
    (ho : o.op = .call { callee := .builtin .append, args := #[s, x], argTypes := #[22, 22] }) {w0 : World} {r : Option Nat} {v : Value} {xs : List Int} (hs : a.eval s = v) (hG : Grow w0 r w v xs)
    {ad : Addr} {m c : Nat} (hx : a.eval x = .slice (some ad) m c) (news : List Int) (hl : news.length = m) (hB : Bytes w (some ad) news) (hbd : xs.length + news.length ≤ 140737488355328)
    (h : ∀ v' w', Grow w0 r w' v' (xs ++ news) → K (a.put o.dst v') w') : if Region.wanted o (yielded ops a.tmps) = true then Oper.wp Try.prog o a w K Q else E := by
  obtain ⟨i0, hi, hz0, hz1, hz2⟩ := info_parts Try.info5
  subst hl
  have hw : Region.wanted o (yielded ops a.tmps) = true := by simp [Region.wanted, hgd]
  rw [if_pos hw]
  obtain ⟨v', w', hrun, h1, h2, _, h4⟩ := run_append_own_at (P := Try.prog) w 0 22 o.type 5 i0 (.int .u8 0) 1 1 Try.underlying22 hi hz0 hz1 hz2 rfl (by decide) v xs.length (cells xs) hG.own ad news.length c (cells news) (by simp [cells]) (by
      intro j u hj
      obtain ⟨hjl, rfl⟩ := cells_at news j u hj
      obtain ⟨b, off, hx', hc⟩ := hB.open (by omega)
      obtain rfl := Option.some.inj hx'
      rw [Addr.add_lit]
      exact hc j hjl) (cells_one news) (by unfold maxLen; omega) (by omega) (Nat.zero_le _)
  unfold Oper.wp execOp
  simp only [ho, resolve, invoke, builtin, Sem.run_bind, Sem.run_pure, Result.andThen_ok, List.map_toArray, List.map_cons, List.map_nil, hs, hx, hrun]
  refine h v' w' (hG.step ?_ h2 ?_)
  · unfold Own
    rw [cells_append, List.length_append]
    exact h1
  · rcases h4 with e | e
    · exact .inl e
    · exact .inr ⟨_, e, Nat.le_refl _⟩

/-- every number below 32 -/
theorem below32 (P : Int → Prop) (r : Int) (h0 : 0 ≤ r) (h1 : r < 32) (h : ∀ k : Nat, k < 32 → P (k : Int)) : P r := by
  obtain ⟨k, rfl⟩ : ∃ k : Nat, r = k := ⟨r.toNat, by omega⟩
  exact h k (by omega)
theorem and_a (r : Int) (h0 : 0 ≤ r) (h1 : r < 32) : bits .and .i32 (r / 4096) 15 = 0 := below32 (fun r => bits .and .i32 (r / 4096) 15 = 0) r h0 h1 (by decide)
theorem and_b (r : Int) (h0 : 0 ≤ r) (h1 : r < 32) : bits .and .i32 (r / 256) 15 = 0 := below32 (fun r => bits .and .i32 (r / 256) 15 = 0) r h0 h1 (by decide)
theorem and_c (r : Int) (h0 : 0 ≤ r) (h1 : r < 32) : bits .and .i32 (r / 16) 15 = r / 16 := below32 (fun r => bits .and .i32 (r / 16) 15 = r / 16) r h0 h1 (by decide)
theorem and_d (r : Int) (h0 : 0 ≤ r) (h1 : r < 32) : bits .and .i32 r 15 = r % 16 := below32 (fun r => bits .and .i32 r 15 = r % 16) r h0 h1 (by decide)
def digits : ByteArray := ⟨#[48, 49, 50, 51, 52, 53, 54, 55, 56, 57, 97, 98, 99, 100, 101, 102]⟩
theorem digits_hex (k : Nat) (h : k < 16) : ((digits[k]'h).toNat : Int) = Plain.hex (k : Int) := by
  revert k
  decide

theorem Grow.drew {w0 w : World} {o : Option Nat} {v : Value} {xs : List Int} (h : Grow w0 o w v xs) : Grow w0 o w.drew v xs := ⟨h.own, ⟨h.kept.os, h.kept.tape, h.kept.output, h.kept.size, h.kept.block⟩, h.place⟩
theorem Bytes.drew {w : World} {a : Option Addr} {z : List Int} (h : Bytes w a z) : Bytes w.drew a z := h

set_option maxHeartbeats 1600000 in
theorem appendEscape_any (v : Value) (xs : List Int) (r : Int) (w : World) (h : Own w v xs) (hl : xs.length ≤ 1073741824) (h0 : 0 ≤ r) (h1 : r < 32) :
    Calls Try.prog 26 #[v, .int .i32 r] w fun e w' => Wrote w v (xs ++ [92, 117, 48, 48, Plain.hex (r / 16), Plain.hex (r % 16)]) e w' := by
  have HG := hid (Grow.start h)
  clear h
  have b1 := and_a r h0 h1
  have b2 := and_b r h0 h1
  have b3 := and_c r h0 h1
  have b4 := and_d r h0 h1
  have c3 : 0 ≤ r / 16 ∧ r / 16 < 16 := by omega
  have c4 : 0 ≤ r % 16 ∧ r % 16 < 16 := by omega
  have e3 : (r / 16).toNat < 16 := by omega
  have e4 : (r % 16).toNat < 16 := by omega
  have d3 : Hid (((digits[(r / 16).toNat]'e3).toNat : Int) = Plain.hex (r / 16)) := by
    have := digits_hex (r / 16).toNat e3
    rw [show (((r / 16).toNat : Nat) : Int) = r / 16 by omega] at this
    exact this
  have d4 : Hid (((digits[(r % 16).toNat]'e4).toNat : Int) = Plain.hex (r % 16)) := by
    have := digits_hex (r % 16).toNat e4
    rw [show (((r % 16).toNat : Nat) : Int) = r % 16 by omega] at this
    exact this
  go_enter Try.func26, Try.ntmps26
  go_wp2_with fail
  go_region_law (refine step_app rfl (.tmp 5) (.tmp 21) rfl rfl ((HG.out.alloc _).drew) rfl [92, 117, 48, 48, ((digits[(r / 16).toNat]'e3).toNat : Int), ((digits[(r % 16).toNat]'e4).toNat : Int)] rfl ((Bytes.new _ _).drew) (by simp; omega) ?_; intro v1 w1 hG1)
  all_goals go_wp2
  all_goals go_ret
  all_goals exact ⟨_, rfl, by rw [← d3.out, ← d4.out]; exact hG1⟩

end Go.Proofs.Qxb6604022a
