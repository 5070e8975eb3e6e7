/-
  DERIVED. GIVEN WITH THE SEED: THE CARDS: each row of YbulkzgwDoorRows.lean that lists a variable, with what it lists TIED to the program's text (the seventh form; the later family's looks); each row that meets fmt, with fmt's text TOLD by the authors' own Lean function (tested against real Go, not proved from fmt's source: count such statements apart). THE CARD IS WHAT COUNTS. Prove the row's statement (the work); the ties are given (YbulkzgwDoorTie.lean); close each card by the builder's one call (the guide's Derived/Test/ToyasCard.lean, 'card_holds'). Laid BY PROGRAM, IN A SANDBOX (cutbox-door.mjs). By AI agents, Wed Nov 11 2026. No macro, syntax, notation, axiom, sorry.
-/
import Derived.Test.YbulkzgwDoorRows
import GoSem.ClaimSeven
namespace Go.Proofs.YbulkzgwDoor
namespace Rows

/-- THE TIED CARD OF 'live.LawS1270AAddrs'. -/
def lawS1270AAddrsCard : Claim7 := { stood := { row := lawS1270AAddrsRow, standIns := [], harness := (true, "588f0a40c5bf9ebd8d6f38c16fca3f8443013a35b4d17a0bc88fc652c478ab7a"), looks := false }, kinds := [], alts := [], laidByText := true, laidKinds := [.called], laidTests := true, laidLooks := .later }
def LawS1270AAddrsCardSaid : Prop := Claim7.holds Ybad.pinned (.plain (OpenSpec.ofChange lawS1270AAddrsSpec)) lawS1270AAddrsCard

/-- THE TIED CARD OF 'live.LawS1270ARoundTrip'. -/
def lawS1270ARoundTripCard : Claim7 := { stood := { row := lawS1270ARoundTripRow, standIns := [], harness := (true, "588f0a40c5bf9ebd8d6f38c16fca3f8443013a35b4d17a0bc88fc652c478ab7a"), looks := false }, kinds := [], alts := [], laidByText := true, laidKinds := [.called, .called, .zero], laidTests := true, laidLooks := .later }
def LawS1270ARoundTripCardSaid : Prop := Claim7.holds Ybad.pinned (.plain (OpenSpec.ofChange lawS1270ARoundTripSpec)) lawS1270ARoundTripCard
end Rows
end Go.Proofs.YbulkzgwDoor
