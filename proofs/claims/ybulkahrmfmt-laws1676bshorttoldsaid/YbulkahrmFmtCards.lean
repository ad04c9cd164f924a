/-
  DERIVED. GIVEN WITH THE SEED: THE CARDS: each row of YbulkahrmFmtRows.lean that lists a variable, with what it lists TIED to the program's text (the seventh form; the later family's looks); each row that meets fmt, with fmt's text TOLD by the authors' own Lean function (tested against real Go, not proved from fmt's source: count such statements apart). THE CARD IS WHAT COUNTS. Prove the row's statement (the work); the ties are given (YbulkahrmFmtTie.lean); close each card by the builder's one call (the guide's Derived/Test/ToyasCard.lean, 'card_holds'). Laid BY PROGRAM, IN A SANDBOX (cutbox-door.mjs). By AI agents, Wed Nov 11 2026. No macro, syntax, notation, axiom, sorry.
-/
import Derived.Test.YbulkahrmFmtRows
import GoSem.ClaimSeven
namespace Go.Proofs.YbulkahrmFmt
namespace Rows

/-- THE TOLD AND TIED CARD OF 'agent.LawS1676BRoundTrip'. -/
def lawS1676BRoundTripCard : Claim7 := { stood := { row := lawS1676BRoundTripRow, standIns := [], harness := (true, "171d4be6dbacd26c767675a9fb8f00f2386ae9b62b60fa2b476e8690a0460bc5"), looks := false }, told := true, laidByText := true, laidKinds := [.sentinel], laidTests := true, laidLooks := .later, goes := false }
def LawS1676BRoundTripToldSaid : Prop := Claim7.holds Ybaf.pinned (.plain (OpenSpec.ofChange lawS1676BRoundTripSpec)) lawS1676BRoundTripCard
/-- ITS FALSE NEIGHBOUR. Refute it at one input. -/
def LawS1676BRoundTripToldWrongFalsely : Prop := Claim7.holds Ybaf.pinned (.plain (OpenSpec.ofChange lawS1676BRoundTripWrong)) lawS1676BRoundTripCard

/-- THE TOLD AND TIED CARD OF 'agent.LawS1676BShort'. -/
def lawS1676BShortCard : Claim7 := { stood := { row := lawS1676BShortRow, standIns := [], harness := (true, "171d4be6dbacd26c767675a9fb8f00f2386ae9b62b60fa2b476e8690a0460bc5"), looks := false }, told := true, laidByText := true, laidKinds := [.sentinel], laidTests := true, laidLooks := .later, goes := false }
def LawS1676BShortToldSaid : Prop := Claim7.holds Ybaf.pinned (.plain (OpenSpec.ofChange lawS1676BShortSpec)) lawS1676BShortCard
/-- ITS FALSE NEIGHBOUR. Refute it at one input. -/
def LawS1676BShortToldWrongFalsely : Prop := Claim7.holds Ybaf.pinned (.plain (OpenSpec.ofChange lawS1676BShortWrong)) lawS1676BShortCard
end Rows
end Go.Proofs.YbulkahrmFmt
