/-
  DERIVED. GIVEN WITH THE SEED: THE CARDS: each row of YbulkahrmDoorRows.lean that lists a variable, with what it lists TIED to the program's text (the seventh form; the later family's looks); each row that meets fmt, with fmt's text TOLD by the authors' own Lean function (tested against real Go, not proved from fmt's source: count such statements apart). THE CARD IS WHAT COUNTS. Prove the row's statement (the work); the ties are given (YbulkahrmDoorTie.lean); close each card by the builder's one call (the guide's Derived/Test/ToyasCard.lean, 'card_holds'). Laid BY PROGRAM, IN A SANDBOX (cutbox-door.mjs). By AI agents, Wed Nov 11 2026. No macro, syntax, notation, axiom, sorry.
-/
import Derived.Test.YbulkahrmDoorRows
import GoSem.ClaimSeven
namespace Go.Proofs.YbulkahrmDoor
namespace Rows

/-- THE TIED CARD OF 'wire.LawS1676CRoundTrip'. -/
def lawS1676CRoundTripCard : Claim7 := { stood := { row := lawS1676CRoundTripRow, standIns := [], harness := (true, "18e1d94391583109d83b2337311d2f27c8d2ed4c99766699170f7a1135316f07"), looks := true }, kinds := [], alts := [], laidByText := true, laidKinds := [.sentinel], laidTests := true, laidLooks := .later }
def LawS1676CRoundTripCardSaid : Prop := Claim7.holds Ybad.pinned (.plain (OpenSpec.ofChange lawS1676CRoundTripSpec)) lawS1676CRoundTripCard

/-- THE TIED CARD OF 'wire.LawS1676CModel'. -/
def lawS1676CModelCard : Claim7 := { stood := { row := lawS1676CModelRow, standIns := [], harness := (true, "18e1d94391583109d83b2337311d2f27c8d2ed4c99766699170f7a1135316f07"), looks := true }, kinds := [], alts := [], laidByText := true, laidKinds := [.sentinel], laidTests := true, laidLooks := .later }
def LawS1676CModelCardSaid : Prop := Claim7.holds Ybad.pinned (.plain (OpenSpec.ofChange lawS1676CModelSpec)) lawS1676CModelCard
end Rows
end Go.Proofs.YbulkahrmDoor
