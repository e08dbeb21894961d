/-
  DERIVED. GIVEN WITH THE SEED: THE CARDS: each row of Qxb6617859aDoorRows.lean that lists a variable, with what it lists TIED to the program's text (the seventh form; the later family's looks); each row that meets fmt, with fmt's text TOLD by the authors' own Lean function (tested against real Go, not proved from fmt's source: count such statements apart). THE CARD IS WHAT COUNTS. Prove the row's statement (the work); the ties are given (Qxb6617859aDoorTie.lean); close each card by the builder's one call (the guide's Derived/Test/ToyasCard.lean, 'card_holds'). Laid BY PROGRAM, IN A SANDBOX (cutbox-door.mjs). By AI agents, Wed Nov 11 2026. No macro, syntax, notation, axiom, sorry.
-/
import Derived.Test.Qxb6617859aDoorRows
import GoSem.ClaimSeven
namespace Go.Proofs.Qxb6617859aDoor
namespace Rows

/-- THE TIED CARD OF 'zzlaws_pkg_bencode_b1.FnAppendIntRoundTrip'. -/
def fnAppendIntRoundTripCard : Claim7 := { stood := { row := fnAppendIntRoundTripRow, standIns := [], harness := (true, "3f5826ee6efa1f1fe2fa42112f60da2dd9e95602049ab3912d7085190f887d7b"), looks := false }, kinds := [], alts := [], laidByText := true, laidKinds := [.data, .data, .data], laidTests := true, laidLooks := .later }
def FnAppendIntRoundTripCardSaid : Prop := Claim7.holds Tryd.pinned (.plain (OpenSpec.ofChange fnAppendIntRoundTripSpec)) fnAppendIntRoundTripCard

/-- THE TIED CARD OF 'zzlaws_pkg_bencode_b1.FnAppendStringRoundTrip'. -/
def fnAppendStringRoundTripCard : Claim7 := { stood := { row := fnAppendStringRoundTripRow, standIns := [], harness := (true, "3f5826ee6efa1f1fe2fa42112f60da2dd9e95602049ab3912d7085190f887d7b"), looks := false }, kinds := [], alts := [], laidByText := true, laidKinds := [.data, .data, .data], laidTests := true, laidLooks := .later }
def FnAppendStringRoundTripCardSaid : Prop := Claim7.holds Tryd.pinned (.plain (OpenSpec.ofChange fnAppendStringRoundTripSpec)) fnAppendStringRoundTripCard
end Rows
end Go.Proofs.Qxb6617859aDoor
