/-
  No cell of these rows narrows 'for every input' (looked for: loops, veiled, ifaces, maps, wideKeys, modest, calm, conditions, laid).
  DERIVED. THE GIVEN ROWS OF THIS SEAT. 4 by the template 'for every input the law returns true; each argument reads behind the call as it read before'; 0 by the template 'total and deterministic' (their statements: Qxb6604022aTotals.lean).
  GIVEN WITH THE SEED: the statements are not yours to turn. If you find one false, say at which input.
  Laid BY PROGRAM, IN A SANDBOX (cutbox-rows.mjs): the forced cells as the released guide's own fill.sh prints them over the translation 88e928ef5ff1c7bb… (all of the seat's roots in one cut). By AI agents, Wed Nov 11 2026. No macro, syntax, notation, axiom, sorry.
-/
import Derived.Test.Qxb6604022aChecked
import GoSem.Claim
import GoSem.ClaimJoined
import GoSem.ClaimMapViews
import Derived.JoinedTies
import Derived.KernelRfl
namespace Go.Proofs.Qxb6604022a
/- THE CELL 'sum', in the pinned program and in every row, IS THE sha256 OF THE DUMP (.gsa) THAT Qxb6604022aProg.lean LOADS. Nothing in Lean hashes anything: it is a label: what it is worth is what the hold of that sum in a sandbox is worth. -/
noncomputable def Try.pinned : Pinned := { name := "qxb6604022a", sum := "88e928ef5ff1c7bb0a8415dfecffb2dd648963751c1ff0377a271c84afb2dbfa", checked := Try.checked }
namespace Rows
def none {H : Type} : Left H := { results := [], args := [] }

/-- 'zzlaws_pkg_canon_b1.FnAppendJSONStringMatchesEscapeTable': WHATEVER THE INPUT: true; the input reads as it did. -/
def fnAppendJSONStringMatchesEscapeTableSpec : ChangeSpec := { name := "fnAppendJSONStringMatchesEscapeTable", fn := fun _ => fun
  | [d1, d2] => { results := [.lit (.bool true)], args := [d1, d2] }
  | _ => none }
def fnAppendJSONStringMatchesEscapeTableRow : OpenClaim := { program := "qxb6604022a", sum := "88e928ef5ff1c7bb0a8415dfecffb2dd648963751c1ff0377a271c84afb2dbfa", func := "example.com/keelstone/keelstone/zzlaws_pkg_canon_b1.FnAppendJSONStringMatchesEscapeTable", spec := "fnAppendJSONStringMatchesEscapeTable", apart := false }
def FnAppendJSONStringMatchesEscapeTableSaid : Prop := fnAppendJSONStringMatchesEscapeTableRow.holds Try.pinned (OpenSpec.ofChange fnAppendJSONStringMatchesEscapeTableSpec)

/-- ITS FALSE NEIGHBOUR: 'it returns false'. Refute it at one input. -/
def fnAppendJSONStringMatchesEscapeTableWrong : ChangeSpec := { name := "fnAppendJSONStringMatchesEscapeTable", fn := fun _ => fun
  | [d1, d2] => { results := [.lit (.bool false)], args := [d1, d2] }
  | _ => none }
def FnAppendJSONStringMatchesEscapeTableWrongFalsely : Prop := fnAppendJSONStringMatchesEscapeTableRow.holds Try.pinned (OpenSpec.ofChange fnAppendJSONStringMatchesEscapeTableWrong)

/-- 'zzlaws_pkg_canon_b1.FnAppendJSONStringRoundTrip': WHATEVER THE INPUT: true; the input reads as it did. -/
def fnAppendJSONStringRoundTripSpec : ChangeSpec := { name := "fnAppendJSONStringRoundTrip", fn := fun _ => fun
  | [d] => { results := [.lit (.bool true)], args := [d] }
  | _ => none }
def fnAppendJSONStringRoundTripRow : OpenClaim := { program := "qxb6604022a", sum := "88e928ef5ff1c7bb0a8415dfecffb2dd648963751c1ff0377a271c84afb2dbfa", func := "example.com/keelstone/keelstone/zzlaws_pkg_canon_b1.FnAppendJSONStringRoundTrip", spec := "fnAppendJSONStringRoundTrip", apart := false }
def FnAppendJSONStringRoundTripSaid : Prop := fnAppendJSONStringRoundTripRow.holds Try.pinned (OpenSpec.ofChange fnAppendJSONStringRoundTripSpec)

/-- ITS FALSE NEIGHBOUR: 'it returns false'. Refute it at one input. -/
def fnAppendJSONStringRoundTripWrong : ChangeSpec := { name := "fnAppendJSONStringRoundTrip", fn := fun _ => fun
  | [d] => { results := [.lit (.bool false)], args := [d] }
  | _ => none }
def FnAppendJSONStringRoundTripWrongFalsely : Prop := fnAppendJSONStringRoundTripRow.holds Try.pinned (OpenSpec.ofChange fnAppendJSONStringRoundTripWrong)

/-- 'zzlaws_pkg_canon_b1.FnRepeatsMatchesMemberSet': WHATEVER THE INPUT: true; the input reads as it did. -/
def fnRepeatsMatchesMemberSetSpec : ChangeSpec := { name := "fnRepeatsMatchesMemberSet", fn := fun _ => fun
  | [d1, d2, d3, d4, d5] => { results := [.lit (.bool true)], args := [d1, d2, d3, d4, d5] }
  | _ => none }
def fnRepeatsMatchesMemberSetRow : OpenClaim := { program := "qxb6604022a", sum := "88e928ef5ff1c7bb0a8415dfecffb2dd648963751c1ff0377a271c84afb2dbfa", func := "example.com/keelstone/keelstone/zzlaws_pkg_canon_b1.FnRepeatsMatchesMemberSet", spec := "fnRepeatsMatchesMemberSet", apart := false }
def FnRepeatsMatchesMemberSetSaid : Prop := fnRepeatsMatchesMemberSetRow.holds Try.pinned (OpenSpec.ofChange fnRepeatsMatchesMemberSetSpec)

/-- ITS FALSE NEIGHBOUR: 'it returns false'. Refute it at one input. -/
def fnRepeatsMatchesMemberSetWrong : ChangeSpec := { name := "fnRepeatsMatchesMemberSet", fn := fun _ => fun
  | [d1, d2, d3, d4, d5] => { results := [.lit (.bool false)], args := [d1, d2, d3, d4, d5] }
  | _ => none }
def FnRepeatsMatchesMemberSetWrongFalsely : Prop := fnRepeatsMatchesMemberSetRow.holds Try.pinned (OpenSpec.ofChange fnRepeatsMatchesMemberSetWrong)

/-- 'zzlaws_pkg_canon_b1.FnRepeatsScriptFindsEveryRepeat': WHATEVER THE INPUT: true; the input reads as it did. -/
def fnRepeatsScriptFindsEveryRepeatSpec : ChangeSpec := { name := "fnRepeatsScriptFindsEveryRepeat", fn := fun _ => fun
  | [d1, d2] => { results := [.lit (.bool true)], args := [d1, d2] }
  | _ => none }
def fnRepeatsScriptFindsEveryRepeatRow : OpenClaim := { program := "qxb6604022a", sum := "88e928ef5ff1c7bb0a8415dfecffb2dd648963751c1ff0377a271c84afb2dbfa", func := "example.com/keelstone/keelstone/zzlaws_pkg_canon_b1.FnRepeatsScriptFindsEveryRepeat", spec := "fnRepeatsScriptFindsEveryRepeat", apart := false }
def FnRepeatsScriptFindsEveryRepeatSaid : Prop := fnRepeatsScriptFindsEveryRepeatRow.holds Try.pinned (OpenSpec.ofChange fnRepeatsScriptFindsEveryRepeatSpec)

/-- ITS FALSE NEIGHBOUR: 'it returns false'. Refute it at one input. -/
def fnRepeatsScriptFindsEveryRepeatWrong : ChangeSpec := { name := "fnRepeatsScriptFindsEveryRepeat", fn := fun _ => fun
  | [d1, d2] => { results := [.lit (.bool false)], args := [d1, d2] }
  | _ => none }
def FnRepeatsScriptFindsEveryRepeatWrongFalsely : Prop := fnRepeatsScriptFindsEveryRepeatRow.holds Try.pinned (OpenSpec.ofChange fnRepeatsScriptFindsEveryRepeatWrong)

end Rows
end Go.Proofs.Qxb6604022a
