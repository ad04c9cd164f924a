/-
  NARROWER THAN 'FOR EVERY INPUT', by the rows' own cells (each row's printed sentence says how): LawS1676CRoundTrip: ifaces, laid · LawS1676CModel: ifaces, laid.
  DERIVED. THE GIVEN ROWS OF THIS SEAT. 2 by the template 'for every input the law returns true; each argument reads behind the call as it read before'; 0 by the template 'total and deterministic' (their statements: YbulkahrmDoorTotals.lean).
  GIVEN WITH THE SEED: the statements are not yours to turn. If you find one false, say at which input.
  Laid BY PROGRAM, IN A SANDBOX (cutbox-rows.mjs): the forced cells as the released guide's own fill.sh prints them over the translation dd6f533c15c2ddee… (all of the seat's roots in one cut). By AI agents, Wed Nov 11 2026. No macro, syntax, notation, axiom, sorry.
-/
import Derived.Test.YbulkahrmDoorChecked
import GoSem.Claim
import GoSem.ClaimJoined
import GoSem.ClaimMapViews
import Derived.JoinedTies
import Derived.KernelRfl
namespace Go.Proofs.YbulkahrmDoor
/- THE CELL 'sum', in the pinned program and in every row, IS THE sha256 OF THE DUMP (.gsa) THAT YbulkahrmDoorProg.lean LOADS. Nothing in Lean hashes anything: it is a label: what it is worth is what the hold of that sum in a sandbox is worth. -/
noncomputable def Ybad.pinned : Pinned := { name := "ybulkahrmdoor", sum := "dd6f533c15c2ddeecb0a902966168a90233a3553d0ae7be6d52fbe8c6ce2bce9", checked := Ybad.checked }
namespace Rows
def none {H : Type} : Left H := { results := [], args := [] }

/- WHAT THE LISTED PACKAGE-LEVEL VARIABLES READ AS WHEN THE CALL BEGINS. Each datum BY PROGRAM (the guide's laid-datum.mjs) off the statement by which the dump's own 'gosem.cut.vars' lays the variable. In a bare row this is a premise. The card (YbulkahrmDoorCards.lean) ties it to the program's text. -/
def laid_example_com_concordat_concordat_pkg_wire_errMalformed {H : Type} : DataW H := .iface "*errors.errorString" (.ptr (.agg [.lit (.string [109, 97, 108, 102, 111, 114, 109, 101, 100, 32, 98, 105, 110, 97, 114, 121, 32, 102, 111, 114, 109])]))

/-- 'wire.LawS1676CRoundTrip': WHATEVER THE INPUT: true; the input reads as it did. -/
def lawS1676CRoundTripSpec : ChangeSpec := { name := "lawS1676CRoundTrip", vars := ["example.com/concordat/concordat/pkg/wire.errMalformed"], fn := fun _ => fun
  | [d1, d2, g1] => { results := [.lit (.bool true)], args := [d1, d2], vars := [g1] }
  | _ => none }
def lawS1676CRoundTripRow : OpenClaim := { program := "ybulkahrmdoor", sum := "dd6f533c15c2ddeecb0a902966168a90233a3553d0ae7be6d52fbe8c6ce2bce9", func := "example.com/concordat/concordat/pkg/wire.LawS1676CRoundTrip", spec := "lawS1676CRoundTrip", named := ["example.com/concordat/concordat/pkg/wire.errMalformed"], ifaces := true, apart := false, laid := [("example.com/concordat/concordat/pkg/wire.errMalformed", laid_example_com_concordat_concordat_pkg_wire_errMalformed)] }
def LawS1676CRoundTripSaid : Prop := lawS1676CRoundTripRow.holds Ybad.pinned (OpenSpec.ofChange lawS1676CRoundTripSpec)

/-- ITS FALSE NEIGHBOUR: 'it returns false'. Refute it at one input. -/
def lawS1676CRoundTripWrong : ChangeSpec := { name := "lawS1676CRoundTrip", vars := ["example.com/concordat/concordat/pkg/wire.errMalformed"], fn := fun _ => fun
  | [d1, d2, g1] => { results := [.lit (.bool false)], args := [d1, d2], vars := [g1] }
  | _ => none }
def LawS1676CRoundTripWrongFalsely : Prop := lawS1676CRoundTripRow.holds Ybad.pinned (OpenSpec.ofChange lawS1676CRoundTripWrong)

/-- 'wire.LawS1676CModel': WHATEVER THE INPUT: true; the input reads as it did. -/
def lawS1676CModelSpec : ChangeSpec := { name := "lawS1676CModel", vars := ["example.com/concordat/concordat/pkg/wire.errMalformed"], fn := fun _ => fun
  | [d1, d2, g1] => { results := [.lit (.bool true)], args := [d1, d2], vars := [g1] }
  | _ => none }
def lawS1676CModelRow : OpenClaim := { program := "ybulkahrmdoor", sum := "dd6f533c15c2ddeecb0a902966168a90233a3553d0ae7be6d52fbe8c6ce2bce9", func := "example.com/concordat/concordat/pkg/wire.LawS1676CModel", spec := "lawS1676CModel", named := ["example.com/concordat/concordat/pkg/wire.errMalformed"], ifaces := true, apart := false, laid := [("example.com/concordat/concordat/pkg/wire.errMalformed", laid_example_com_concordat_concordat_pkg_wire_errMalformed)] }
def LawS1676CModelSaid : Prop := lawS1676CModelRow.holds Ybad.pinned (OpenSpec.ofChange lawS1676CModelSpec)

/-- ITS FALSE NEIGHBOUR: 'it returns false'. Refute it at one input. -/
def lawS1676CModelWrong : ChangeSpec := { name := "lawS1676CModel", vars := ["example.com/concordat/concordat/pkg/wire.errMalformed"], fn := fun _ => fun
  | [d1, d2, g1] => { results := [.lit (.bool false)], args := [d1, d2], vars := [g1] }
  | _ => none }
def LawS1676CModelWrongFalsely : Prop := lawS1676CModelRow.holds Ybad.pinned (OpenSpec.ofChange lawS1676CModelWrong)

end Rows
end Go.Proofs.YbulkahrmDoor
