/-
  No cell of these rows narrows 'for every input' (looked for: loops, veiled, ifaces, maps, wideKeys, modest, calm, conditions, laid).
  DERIVED. THE GIVEN ROWS OF THIS SEAT. 4 by the template 'for every input the law returns true; each argument reads behind the call as it read before'; 0 by the template 'total and deterministic' (their statements: Qxb6617975aTotals.lean).
  GIVEN WITH THE SEED: the statements are not yours to turn. If you find one false, say at which input.
  Laid BY PROGRAM, IN A SANDBOX (cutbox-rows.mjs): the forced cells as the released guide's own fill.sh prints them over the translation 9fcdbabaaeb10791… (all of the seat's roots in one cut). By AI agents, Wed Nov 11 2026. No macro, syntax, notation, axiom, sorry.
-/
import Derived.Test.Qxb6617975aChecked
import GoSem.Claim
import GoSem.ClaimJoined
import GoSem.ClaimMapViews
import Derived.JoinedTies
import Derived.KernelRfl
namespace Go.Proofs.Qxb6617975a
/- THE CELL 'sum', in the pinned program and in every row, IS THE sha256 OF THE DUMP (.gsa) THAT Qxb6617975aProg.lean LOADS. Nothing in Lean hashes anything: it is a label: what it is worth is what the hold of that sum in a sandbox is worth. -/
noncomputable def Try.pinned : Pinned := { name := "qxb6617975a", sum := "9fcdbabaaeb1079122bfa4cd22c023cae16204190e20ee86bbc8eb8dd5779450", checked := Try.checked }
namespace Rows
def none {H : Type} : Left H := { results := [], args := [] }

/-- 'zzlaws_internal_jsonscan_b1.FnSkipNumberLongestViablePrefixAndShift': WHATEVER THE INPUT: true; the input reads as it did. -/
def fnSkipNumberLongestViablePrefixAndShiftSpec : ChangeSpec := { name := "fnSkipNumberLongestViablePrefixAndShift", fn := fun _ => fun
  | [d1, d2] => { results := [.lit (.bool true)], args := [d1, d2] }
  | _ => none }
def fnSkipNumberLongestViablePrefixAndShiftRow : OpenClaim := { program := "qxb6617975a", sum := "9fcdbabaaeb1079122bfa4cd22c023cae16204190e20ee86bbc8eb8dd5779450", func := "example.com/ushiriki/ushiriki/zzlaws_internal_jsonscan_b1.FnSkipNumberLongestViablePrefixAndShift", spec := "fnSkipNumberLongestViablePrefixAndShift", apart := false }
def FnSkipNumberLongestViablePrefixAndShiftSaid : Prop := fnSkipNumberLongestViablePrefixAndShiftRow.holds Try.pinned (OpenSpec.ofChange fnSkipNumberLongestViablePrefixAndShiftSpec)

/-- ITS FALSE NEIGHBOUR: 'it returns false'. Refute it at one input. -/
def fnSkipNumberLongestViablePrefixAndShiftWrong : ChangeSpec := { name := "fnSkipNumberLongestViablePrefixAndShift", fn := fun _ => fun
  | [d1, d2] => { results := [.lit (.bool false)], args := [d1, d2] }
  | _ => none }
def FnSkipNumberLongestViablePrefixAndShiftWrongFalsely : Prop := fnSkipNumberLongestViablePrefixAndShiftRow.holds Try.pinned (OpenSpec.ofChange fnSkipNumberLongestViablePrefixAndShiftWrong)

/-- 'zzlaws_internal_jsonscan_b1.FnSkipNumberCutBeyondEnd': WHATEVER THE INPUT: true; the input reads as it did. -/
def fnSkipNumberCutBeyondEndSpec : ChangeSpec := { name := "fnSkipNumberCutBeyondEnd", fn := fun _ => fun
  | [d1, d2, d3] => { results := [.lit (.bool true)], args := [d1, d2, d3] }
  | _ => none }
def fnSkipNumberCutBeyondEndRow : OpenClaim := { program := "qxb6617975a", sum := "9fcdbabaaeb1079122bfa4cd22c023cae16204190e20ee86bbc8eb8dd5779450", func := "example.com/ushiriki/ushiriki/zzlaws_internal_jsonscan_b1.FnSkipNumberCutBeyondEnd", spec := "fnSkipNumberCutBeyondEnd", apart := false }
def FnSkipNumberCutBeyondEndSaid : Prop := fnSkipNumberCutBeyondEndRow.holds Try.pinned (OpenSpec.ofChange fnSkipNumberCutBeyondEndSpec)

/-- ITS FALSE NEIGHBOUR: 'it returns false'. Refute it at one input. -/
def fnSkipNumberCutBeyondEndWrong : ChangeSpec := { name := "fnSkipNumberCutBeyondEnd", fn := fun _ => fun
  | [d1, d2, d3] => { results := [.lit (.bool false)], args := [d1, d2, d3] }
  | _ => none }
def FnSkipNumberCutBeyondEndWrongFalsely : Prop := fnSkipNumberCutBeyondEndRow.holds Try.pinned (OpenSpec.ofChange fnSkipNumberCutBeyondEndWrong)

/-- 'zzlaws_internal_jsonscan_b1.FnSkipColonGreatestBlankColonBlankAndRestart': WHATEVER THE INPUT: true; the input reads as it did. -/
def fnSkipColonGreatestBlankColonBlankAndRestartSpec : ChangeSpec := { name := "fnSkipColonGreatestBlankColonBlankAndRestart", fn := fun _ => fun
  | [d1, d2, d3] => { results := [.lit (.bool true)], args := [d1, d2, d3] }
  | _ => none }
def fnSkipColonGreatestBlankColonBlankAndRestartRow : OpenClaim := { program := "qxb6617975a", sum := "9fcdbabaaeb1079122bfa4cd22c023cae16204190e20ee86bbc8eb8dd5779450", func := "example.com/ushiriki/ushiriki/zzlaws_internal_jsonscan_b1.FnSkipColonGreatestBlankColonBlankAndRestart", spec := "fnSkipColonGreatestBlankColonBlankAndRestart", apart := false }
def FnSkipColonGreatestBlankColonBlankAndRestartSaid : Prop := fnSkipColonGreatestBlankColonBlankAndRestartRow.holds Try.pinned (OpenSpec.ofChange fnSkipColonGreatestBlankColonBlankAndRestartSpec)

/-- ITS FALSE NEIGHBOUR: 'it returns false'. Refute it at one input. -/
def fnSkipColonGreatestBlankColonBlankAndRestartWrong : ChangeSpec := { name := "fnSkipColonGreatestBlankColonBlankAndRestart", fn := fun _ => fun
  | [d1, d2, d3] => { results := [.lit (.bool false)], args := [d1, d2, d3] }
  | _ => none }
def FnSkipColonGreatestBlankColonBlankAndRestartWrongFalsely : Prop := fnSkipColonGreatestBlankColonBlankAndRestartRow.holds Try.pinned (OpenSpec.ofChange fnSkipColonGreatestBlankColonBlankAndRestartWrong)

/-- 'zzlaws_internal_jsonscan_b1.FnSkipColonInsertBlank': WHATEVER THE INPUT: true; the input reads as it did. -/
def fnSkipColonInsertBlankSpec : ChangeSpec := { name := "fnSkipColonInsertBlank", fn := fun _ => fun
  | [d1, d2, d3, d4] => { results := [.lit (.bool true)], args := [d1, d2, d3, d4] }
  | _ => none }
def fnSkipColonInsertBlankRow : OpenClaim := { program := "qxb6617975a", sum := "9fcdbabaaeb1079122bfa4cd22c023cae16204190e20ee86bbc8eb8dd5779450", func := "example.com/ushiriki/ushiriki/zzlaws_internal_jsonscan_b1.FnSkipColonInsertBlank", spec := "fnSkipColonInsertBlank", apart := false }
def FnSkipColonInsertBlankSaid : Prop := fnSkipColonInsertBlankRow.holds Try.pinned (OpenSpec.ofChange fnSkipColonInsertBlankSpec)

/-- ITS FALSE NEIGHBOUR: 'it returns false'. Refute it at one input. -/
def fnSkipColonInsertBlankWrong : ChangeSpec := { name := "fnSkipColonInsertBlank", fn := fun _ => fun
  | [d1, d2, d3, d4] => { results := [.lit (.bool false)], args := [d1, d2, d3, d4] }
  | _ => none }
def FnSkipColonInsertBlankWrongFalsely : Prop := fnSkipColonInsertBlankRow.holds Try.pinned (OpenSpec.ofChange fnSkipColonInsertBlankWrong)

end Rows
end Go.Proofs.Qxb6617975a
