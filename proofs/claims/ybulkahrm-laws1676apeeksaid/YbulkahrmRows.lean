/-
  No cell of these rows narrows 'for every input' (looked for: loops, veiled, ifaces, maps, wideKeys, modest, calm, conditions, laid).
  DERIVED. THE GIVEN ROWS OF THIS SEAT. 2 by the template 'for every input the law returns true; each argument reads behind the call as it read before'; 0 by the template 'total and deterministic' (their statements: YbulkahrmTotals.lean).
  GIVEN WITH THE SEED: the statements are not yours to turn. If you find one false, say at which input.
  Laid BY PROGRAM, IN A SANDBOX (cutbox-rows.mjs): the forced cells as the released guide's own fill.sh prints them over the translation bd8a20ceaf82447f… (all of the seat's roots in one cut). By AI agents, Wed Nov 11 2026. No macro, syntax, notation, axiom, sorry.
-/
import Derived.Test.YbulkahrmChecked
import GoSem.Claim
import GoSem.ClaimJoined
import GoSem.ClaimMapViews
import Derived.JoinedTies
import Derived.KernelRfl
namespace Go.Proofs.Ybulkahrm
/- THE CELL 'sum', in the pinned program and in every row, IS THE sha256 OF THE DUMP (.gsa) THAT YbulkahrmProg.lean LOADS. Nothing in Lean hashes anything: it is a label: what it is worth is what the hold of that sum in a sandbox is worth. -/
noncomputable def Yba.pinned : Pinned := { name := "ybulkahrm", sum := "bd8a20ceaf82447f709d7fdae760d49d6393c0612000e9d0bea0e4e7adb67b39", checked := Yba.checked }
namespace Rows
def none {H : Type} : Left H := { results := [], args := [] }

/-- 'sql.LawS1676AOrder': WHATEVER THE INPUT: true; the input reads as it did. -/
def lawS1676AOrderSpec : ChangeSpec := { name := "lawS1676AOrder", fn := fun _ => fun
  | [d1, d2, d3, d4] => { results := [.lit (.bool true)], args := [d1, d2, d3, d4] }
  | _ => none }
def lawS1676AOrderRow : OpenClaim := { program := "ybulkahrm", sum := "bd8a20ceaf82447f709d7fdae760d49d6393c0612000e9d0bea0e4e7adb67b39", func := "example.com/concordat/concordat/pkg/sql.LawS1676AOrder", spec := "lawS1676AOrder", apart := false }
def LawS1676AOrderSaid : Prop := lawS1676AOrderRow.holds Yba.pinned (OpenSpec.ofChange lawS1676AOrderSpec)

/-- ITS FALSE NEIGHBOUR: 'it returns false'. Refute it at one input. -/
def lawS1676AOrderWrong : ChangeSpec := { name := "lawS1676AOrder", fn := fun _ => fun
  | [d1, d2, d3, d4] => { results := [.lit (.bool false)], args := [d1, d2, d3, d4] }
  | _ => none }
def LawS1676AOrderWrongFalsely : Prop := lawS1676AOrderRow.holds Yba.pinned (OpenSpec.ofChange lawS1676AOrderWrong)

/-- 'sql.LawS1676APeek': WHATEVER THE INPUT: true; the input reads as it did. -/
def lawS1676APeekSpec : ChangeSpec := { name := "lawS1676APeek", fn := fun _ => fun
  | [d1, d2, d3] => { results := [.lit (.bool true)], args := [d1, d2, d3] }
  | _ => none }
def lawS1676APeekRow : OpenClaim := { program := "ybulkahrm", sum := "bd8a20ceaf82447f709d7fdae760d49d6393c0612000e9d0bea0e4e7adb67b39", func := "example.com/concordat/concordat/pkg/sql.LawS1676APeek", spec := "lawS1676APeek", apart := false }
def LawS1676APeekSaid : Prop := lawS1676APeekRow.holds Yba.pinned (OpenSpec.ofChange lawS1676APeekSpec)

/-- ITS FALSE NEIGHBOUR: 'it returns false'. Refute it at one input. -/
def lawS1676APeekWrong : ChangeSpec := { name := "lawS1676APeek", fn := fun _ => fun
  | [d1, d2, d3] => { results := [.lit (.bool false)], args := [d1, d2, d3] }
  | _ => none }
def LawS1676APeekWrongFalsely : Prop := lawS1676APeekRow.holds Yba.pinned (OpenSpec.ofChange lawS1676APeekWrong)

end Rows
end Go.Proofs.Ybulkahrm
