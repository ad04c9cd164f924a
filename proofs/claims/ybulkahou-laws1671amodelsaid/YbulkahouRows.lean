/-
  No cell of these rows narrows 'for every input' (looked for: loops, veiled, ifaces, maps, wideKeys, modest, calm, conditions, laid).
  DERIVED. THE GIVEN ROWS OF THIS SEAT. 4 by the template 'for every input the law returns true; each argument reads behind the call as it read before'; 0 by the template 'total and deterministic' (their statements: YbulkahouTotals.lean).
  GIVEN WITH THE SEED: the statements are not yours to turn. If you find one false, say at which input.
  Laid BY PROGRAM, IN A SANDBOX (cutbox-rows.mjs): the forced cells as the released guide's own fill.sh prints them over the translation 09019b8e097e50ac… (all of the seat's roots in one cut). By AI agents, Wed Nov 11 2026. No macro, syntax, notation, axiom, sorry.
-/
import Derived.Test.YbulkahouChecked
import GoSem.Claim
import GoSem.ClaimJoined
import GoSem.ClaimMapViews
import Derived.JoinedTies
import Derived.KernelRfl
namespace Go.Proofs.Ybulkahou
/- THE CELL 'sum', in the pinned program and in every row, IS THE sha256 OF THE DUMP (.gsa) THAT YbulkahouProg.lean LOADS. Nothing in Lean hashes anything: it is a label: what it is worth is what the hold of that sum in a sandbox is worth. -/
noncomputable def Yba.pinned : Pinned := { name := "ybulkahou", sum := "09019b8e097e50ac11aafc67fae225da8c1cf30e2886340c81da3d9af0f81b96", checked := Yba.checked }
namespace Rows
def none {H : Type} : Left H := { results := [], args := [] }

/-- 'tallyvane.LawS1671AModel': WHATEVER THE INPUT: true; the input reads as it did. -/
def lawS1671AModelSpec : ChangeSpec := { name := "lawS1671AModel", fn := fun _ => fun
  | [d1, d2] => { results := [.lit (.bool true)], args := [d1, d2] }
  | _ => none }
def lawS1671AModelRow : OpenClaim := { program := "ybulkahou", sum := "09019b8e097e50ac11aafc67fae225da8c1cf30e2886340c81da3d9af0f81b96", func := "example.com/tallyvane/tallyvane.LawS1671AModel", spec := "lawS1671AModel", inPlace := ["internal/bytealg.abigen_runtime_cmpstring"], unfollowed := true, recurses := true, apart := false }
def LawS1671AModelSaid : Prop := lawS1671AModelRow.holds Yba.pinned (OpenSpec.ofChange lawS1671AModelSpec)

/-- ITS FALSE NEIGHBOUR: 'it returns false'. Refute it at one input. -/
def lawS1671AModelWrong : ChangeSpec := { name := "lawS1671AModel", fn := fun _ => fun
  | [d1, d2] => { results := [.lit (.bool false)], args := [d1, d2] }
  | _ => none }
def LawS1671AModelWrongFalsely : Prop := lawS1671AModelRow.holds Yba.pinned (OpenSpec.ofChange lawS1671AModelWrong)

/-- 'tallyvane.LawS1671ASymmetry': WHATEVER THE INPUT: true; the input reads as it did. -/
def lawS1671ASymmetrySpec : ChangeSpec := { name := "lawS1671ASymmetry", fn := fun _ => fun
  | [d1, d2] => { results := [.lit (.bool true)], args := [d1, d2] }
  | _ => none }
def lawS1671ASymmetryRow : OpenClaim := { program := "ybulkahou", sum := "09019b8e097e50ac11aafc67fae225da8c1cf30e2886340c81da3d9af0f81b96", func := "example.com/tallyvane/tallyvane.LawS1671ASymmetry", spec := "lawS1671ASymmetry", inPlace := ["internal/bytealg.abigen_runtime_cmpstring"], unfollowed := true, recurses := true, apart := false }
def LawS1671ASymmetrySaid : Prop := lawS1671ASymmetryRow.holds Yba.pinned (OpenSpec.ofChange lawS1671ASymmetrySpec)

/-- ITS FALSE NEIGHBOUR: 'it returns false'. Refute it at one input. -/
def lawS1671ASymmetryWrong : ChangeSpec := { name := "lawS1671ASymmetry", fn := fun _ => fun
  | [d1, d2] => { results := [.lit (.bool false)], args := [d1, d2] }
  | _ => none }
def LawS1671ASymmetryWrongFalsely : Prop := lawS1671ASymmetryRow.holds Yba.pinned (OpenSpec.ofChange lawS1671ASymmetryWrong)

/-- 'tallyvane.LawS1671CFields': WHATEVER THE INPUT: true; the input reads as it did. -/
def lawS1671CFieldsSpec : ChangeSpec := { name := "lawS1671CFields", fn := fun _ => fun
  | [d1, d2, d3, d4] => { results := [.lit (.bool true)], args := [d1, d2, d3, d4] }
  | _ => none }
def lawS1671CFieldsRow : OpenClaim := { program := "ybulkahou", sum := "09019b8e097e50ac11aafc67fae225da8c1cf30e2886340c81da3d9af0f81b96", func := "example.com/tallyvane/tallyvane.LawS1671CFields", spec := "lawS1671CFields", apart := false }
def LawS1671CFieldsSaid : Prop := lawS1671CFieldsRow.holds Yba.pinned (OpenSpec.ofChange lawS1671CFieldsSpec)

/-- ITS FALSE NEIGHBOUR: 'it returns false'. Refute it at one input. -/
def lawS1671CFieldsWrong : ChangeSpec := { name := "lawS1671CFields", fn := fun _ => fun
  | [d1, d2, d3, d4] => { results := [.lit (.bool false)], args := [d1, d2, d3, d4] }
  | _ => none }
def LawS1671CFieldsWrongFalsely : Prop := lawS1671CFieldsRow.holds Yba.pinned (OpenSpec.ofChange lawS1671CFieldsWrong)

/-- 'tallyvane.LawS1671CFresh': WHATEVER THE INPUT: true; the input reads as it did. -/
def lawS1671CFreshSpec : ChangeSpec := { name := "lawS1671CFresh", fn := fun _ => fun
  | [d1, d2, d3] => { results := [.lit (.bool true)], args := [d1, d2, d3] }
  | _ => none }
def lawS1671CFreshRow : OpenClaim := { program := "ybulkahou", sum := "09019b8e097e50ac11aafc67fae225da8c1cf30e2886340c81da3d9af0f81b96", func := "example.com/tallyvane/tallyvane.LawS1671CFresh", spec := "lawS1671CFresh", apart := false }
def LawS1671CFreshSaid : Prop := lawS1671CFreshRow.holds Yba.pinned (OpenSpec.ofChange lawS1671CFreshSpec)

/-- ITS FALSE NEIGHBOUR: 'it returns false'. Refute it at one input. -/
def lawS1671CFreshWrong : ChangeSpec := { name := "lawS1671CFresh", fn := fun _ => fun
  | [d1, d2, d3] => { results := [.lit (.bool false)], args := [d1, d2, d3] }
  | _ => none }
def LawS1671CFreshWrongFalsely : Prop := lawS1671CFreshRow.holds Yba.pinned (OpenSpec.ofChange lawS1671CFreshWrong)

end Rows
end Go.Proofs.Ybulkahou
