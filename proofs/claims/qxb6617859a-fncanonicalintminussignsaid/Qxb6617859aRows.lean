/-
  No cell of these rows narrows 'for every input' (looked for: loops, veiled, ifaces, maps, wideKeys, modest, calm, conditions, laid).
  DERIVED. THE GIVEN ROWS OF THIS SEAT. 2 by the template 'for every input the law returns true; each argument reads behind the call as it read before'; 0 by the template 'total and deterministic' (their statements: Qxb6617859aTotals.lean).
  GIVEN WITH THE SEED: the statements are not yours to turn. If you find one false, say at which input.
  Laid BY PROGRAM, IN A SANDBOX (cutbox-rows.mjs): the forced cells as the released guide's own fill.sh prints them over the translation d96a1a3b2b325cf9… (all of the seat's roots in one cut). By AI agents, Wed Nov 11 2026. No macro, syntax, notation, axiom, sorry.
-/
import Derived.Test.Qxb6617859aChecked
import GoSem.Claim
import GoSem.ClaimJoined
import GoSem.ClaimMapViews
import Derived.JoinedTies
import Derived.KernelRfl
namespace Go.Proofs.Qxb6617859a
/- THE CELL 'sum', in the pinned program and in every row, IS THE sha256 OF THE DUMP (.gsa) THAT Qxb6617859aProg.lean LOADS. Nothing in Lean hashes anything: it is a label: what it is worth is what the hold of that sum in a sandbox is worth. -/
noncomputable def Try.pinned : Pinned := { name := "qxb6617859a", sum := "d96a1a3b2b325cf9db0f33df3e5db2ca49db2d5fd96717b31c38dea51ebc8a86", checked := Try.checked }
namespace Rows
def none {H : Type} : Left H := { results := [], args := [] }

/-- 'zzlaws_pkg_bencode_b1.FnCanonicalIntMatchesNormalForm': WHATEVER THE INPUT: true; the input reads as it did. -/
def fnCanonicalIntMatchesNormalFormSpec : ChangeSpec := { name := "fnCanonicalIntMatchesNormalForm", fn := fun _ => fun
  | [d1, d2] => { results := [.lit (.bool true)], args := [d1, d2] }
  | _ => none }
def fnCanonicalIntMatchesNormalFormRow : OpenClaim := { program := "qxb6617859a", sum := "d96a1a3b2b325cf9db0f33df3e5db2ca49db2d5fd96717b31c38dea51ebc8a86", func := "example.com/lullswarm/lullswarm/zzlaws_pkg_bencode_b1.FnCanonicalIntMatchesNormalForm", spec := "fnCanonicalIntMatchesNormalForm", apart := false }
def FnCanonicalIntMatchesNormalFormSaid : Prop := fnCanonicalIntMatchesNormalFormRow.holds Try.pinned (OpenSpec.ofChange fnCanonicalIntMatchesNormalFormSpec)

/-- ITS FALSE NEIGHBOUR: 'it returns false'. Refute it at one input. -/
def fnCanonicalIntMatchesNormalFormWrong : ChangeSpec := { name := "fnCanonicalIntMatchesNormalForm", fn := fun _ => fun
  | [d1, d2] => { results := [.lit (.bool false)], args := [d1, d2] }
  | _ => none }
def FnCanonicalIntMatchesNormalFormWrongFalsely : Prop := fnCanonicalIntMatchesNormalFormRow.holds Try.pinned (OpenSpec.ofChange fnCanonicalIntMatchesNormalFormWrong)

/-- 'zzlaws_pkg_bencode_b1.FnCanonicalIntMinusSign': WHATEVER THE INPUT: true; the input reads as it did. -/
def fnCanonicalIntMinusSignSpec : ChangeSpec := { name := "fnCanonicalIntMinusSign", fn := fun _ => fun
  | [d] => { results := [.lit (.bool true)], args := [d] }
  | _ => none }
def fnCanonicalIntMinusSignRow : OpenClaim := { program := "qxb6617859a", sum := "d96a1a3b2b325cf9db0f33df3e5db2ca49db2d5fd96717b31c38dea51ebc8a86", func := "example.com/lullswarm/lullswarm/zzlaws_pkg_bencode_b1.FnCanonicalIntMinusSign", spec := "fnCanonicalIntMinusSign", apart := false }
def FnCanonicalIntMinusSignSaid : Prop := fnCanonicalIntMinusSignRow.holds Try.pinned (OpenSpec.ofChange fnCanonicalIntMinusSignSpec)

/-- ITS FALSE NEIGHBOUR: 'it returns false'. Refute it at one input. -/
def fnCanonicalIntMinusSignWrong : ChangeSpec := { name := "fnCanonicalIntMinusSign", fn := fun _ => fun
  | [d] => { results := [.lit (.bool false)], args := [d] }
  | _ => none }
def FnCanonicalIntMinusSignWrongFalsely : Prop := fnCanonicalIntMinusSignRow.holds Try.pinned (OpenSpec.ofChange fnCanonicalIntMinusSignWrong)

end Rows
end Go.Proofs.Qxb6617859a
