/-
  NARROWER THAN 'FOR EVERY INPUT', by the rows' own cells (each row's printed sentence says how): LawS1676BRoundTrip: ifaces, laid · LawS1676BShort: ifaces, laid.
  DERIVED. THE GIVEN ROWS OF THIS SEAT. 2 by the template 'for every input the law returns true; each argument reads behind the call as it read before'; 0 by the template 'total and deterministic' (their statements: YbulkahrmFmtTotals.lean).
  GIVEN WITH THE SEED: the statements are not yours to turn. If you find one false, say at which input.
  Laid BY PROGRAM, IN A SANDBOX (cutbox-rows.mjs): the forced cells as the released guide's own fill.sh prints them over the translation ab5c5db3514e41b6… (all of the seat's roots in one cut). By AI agents, Wed Nov 11 2026. No macro, syntax, notation, axiom, sorry.
-/
import Derived.Test.YbulkahrmFmtChecked
import GoSem.Claim
import GoSem.ClaimJoined
import GoSem.ClaimMapViews
import Derived.JoinedTies
import Derived.KernelRfl
namespace Go.Proofs.YbulkahrmFmt
/- THE CELL 'sum', in the pinned program and in every row, IS THE sha256 OF THE DUMP (.gsa) THAT YbulkahrmFmtProg.lean LOADS. Nothing in Lean hashes anything: it is a label: what it is worth is what the hold of that sum in a sandbox is worth. -/
noncomputable def Ybaf.pinned : Pinned := { name := "ybulkahrmfmt", sum := "ab5c5db3514e41b6598eb1ef0eeb219bc873ca2b08360db43a7f136ae7c9a753", checked := Ybaf.checked }
namespace Rows
def none {H : Type} : Left H := { results := [], args := [] }

/- WHAT THE LISTED PACKAGE-LEVEL VARIABLES READ AS WHEN THE CALL BEGINS. Each datum BY PROGRAM (the guide's laid-datum.mjs) off the statement by which the dump's own 'gosem.cut.vars' lays the variable. In a bare row this is a premise. The card (YbulkahrmFmtCards.lean) ties it to the program's text. -/
def laid_example_com_concordat_concordat_pkg_wire_errMalformed {H : Type} : DataW H := .iface "*errors.errorString" (.ptr (.agg [.lit (.string [109, 97, 108, 102, 111, 114, 109, 101, 100, 32, 98, 105, 110, 97, 114, 121, 32, 102, 111, 114, 109])]))

/-- 'agent.LawS1676BRoundTrip': WHATEVER THE INPUT: true; the input reads as it did. -/
def lawS1676BRoundTripSpec : ChangeSpec := { name := "lawS1676BRoundTrip", vars := ["example.com/concordat/concordat/pkg/wire.errMalformed"], fn := fun _ => fun
  | [d1, d2, g1] => { results := [.lit (.bool true)], args := [d1, d2], vars := [g1] }
  | _ => none }
def lawS1676BRoundTripRow : OpenClaim := { program := "ybulkahrmfmt", sum := "ab5c5db3514e41b6598eb1ef0eeb219bc873ca2b08360db43a7f136ae7c9a753", func := "example.com/concordat/concordat/pkg/agent.LawS1676BRoundTrip", spec := "lawS1676BRoundTrip", stops := ["fmt.errorf"], inPlace := ["fmt.errorf"], named := ["example.com/concordat/concordat/pkg/wire.errMalformed"], ifaces := true, apart := false, laid := [("example.com/concordat/concordat/pkg/wire.errMalformed", laid_example_com_concordat_concordat_pkg_wire_errMalformed)] }
/-- NO THEOREM (fmt's text is open here; it may be false): for the released tool's asking of the row's closed facts alone. THE STATEMENT IS 'LawS1676BRoundTripToldSaid' (YbulkahrmFmtCards.lean). -/
def LawS1676BRoundTripFormAsk : Prop := lawS1676BRoundTripRow.holds Ybaf.pinned (OpenSpec.ofChange lawS1676BRoundTripSpec)

/-- ITS FALSE NEIGHBOUR: 'it returns false'. Refute it at one input. -/
def lawS1676BRoundTripWrong : ChangeSpec := { name := "lawS1676BRoundTrip", vars := ["example.com/concordat/concordat/pkg/wire.errMalformed"], fn := fun _ => fun
  | [d1, d2, g1] => { results := [.lit (.bool false)], args := [d1, d2], vars := [g1] }
  | _ => none }
def LawS1676BRoundTripWrongFormAsk : Prop := lawS1676BRoundTripRow.holds Ybaf.pinned (OpenSpec.ofChange lawS1676BRoundTripWrong)

/-- 'agent.LawS1676BShort': WHATEVER THE INPUT: true; the input reads as it did. -/
def lawS1676BShortSpec : ChangeSpec := { name := "lawS1676BShort", vars := ["example.com/concordat/concordat/pkg/wire.errMalformed"], fn := fun _ => fun
  | [d, g1] => { results := [.lit (.bool true)], args := [d], vars := [g1] }
  | _ => none }
def lawS1676BShortRow : OpenClaim := { program := "ybulkahrmfmt", sum := "ab5c5db3514e41b6598eb1ef0eeb219bc873ca2b08360db43a7f136ae7c9a753", func := "example.com/concordat/concordat/pkg/agent.LawS1676BShort", spec := "lawS1676BShort", stops := ["fmt.errorf"], inPlace := ["fmt.errorf"], named := ["example.com/concordat/concordat/pkg/wire.errMalformed"], ifaces := true, apart := false, laid := [("example.com/concordat/concordat/pkg/wire.errMalformed", laid_example_com_concordat_concordat_pkg_wire_errMalformed)] }
/-- NO THEOREM (fmt's text is open here; it may be false): for the released tool's asking of the row's closed facts alone. THE STATEMENT IS 'LawS1676BShortToldSaid' (YbulkahrmFmtCards.lean). -/
def LawS1676BShortFormAsk : Prop := lawS1676BShortRow.holds Ybaf.pinned (OpenSpec.ofChange lawS1676BShortSpec)

/-- ITS FALSE NEIGHBOUR: 'it returns false'. Refute it at one input. -/
def lawS1676BShortWrong : ChangeSpec := { name := "lawS1676BShort", vars := ["example.com/concordat/concordat/pkg/wire.errMalformed"], fn := fun _ => fun
  | [d, g1] => { results := [.lit (.bool false)], args := [d], vars := [g1] }
  | _ => none }
def LawS1676BShortWrongFormAsk : Prop := lawS1676BShortRow.holds Ybaf.pinned (OpenSpec.ofChange lawS1676BShortWrong)

end Rows
end Go.Proofs.YbulkahrmFmt
