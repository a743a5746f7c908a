/-
  No cell of these rows narrows 'for every input' (looked for: loops, veiled, ifaces, maps, wideKeys, modest, calm, conditions, laid).
  DERIVED. THE GIVEN ROWS OF THIS SEAT. 2 by the template 'for every input the law returns true; each argument reads behind the call as it read before'; 0 by the template 'total and deterministic' (their statements: YbulkadjmTotals.lean).
  GIVEN WITH THE SEED: the statements are not yours to turn. If you find one false, say at which input.
  Laid BY PROGRAM, IN A SANDBOX (cutbox-rows.mjs): the forced cells as the released guide's own fill.sh prints them over the translation 31625b6068dd07ca… (all of the seat's roots in one cut). By AI agents, Wed Nov 11 2026. No macro, syntax, notation, axiom, sorry.
-/
import Derived.Test.YbulkadjmChecked
import GoSem.Claim
import GoSem.ClaimJoined
import GoSem.ClaimMapViews
import Derived.JoinedTies
import Derived.KernelRfl
namespace Go.Proofs.Ybulkadjm
/- THE CELL 'sum', in the pinned program and in every row, IS THE sha256 OF THE DUMP (.gsa) THAT YbulkadjmProg.lean LOADS. Nothing in Lean hashes anything: it is a label: what it is worth is what the hold of that sum in a sandbox is worth. -/
noncomputable def Yba.pinned : Pinned := { name := "ybulkadjm", sum := "31625b6068dd07caa3caa30c8cbd5c7b0fc259cf7cbd03d14b4ef1695f9b4a4a", checked := Yba.checked }
namespace Rows
def none {H : Type} : Left H := { results := [], args := [] }

/-- 'nat64.LawS1468CModel': WHATEVER THE INPUT: true; the input reads as it did. -/
def lawS1468CModelSpec : ChangeSpec := { name := "lawS1468CModel", fn := fun _ => fun
  | [d] => { results := [.lit (.bool true)], args := [d] }
  | _ => none }
def lawS1468CModelRow : OpenClaim := { program := "ybulkadjm", sum := "31625b6068dd07caa3caa30c8cbd5c7b0fc259cf7cbd03d14b4ef1695f9b4a4a", func := "example.com/hearthzone/hearthzone/internal/nat64.LawS1468CModel", spec := "lawS1468CModel", apart := false }
def LawS1468CModelSaid : Prop := lawS1468CModelRow.holds Yba.pinned (OpenSpec.ofChange lawS1468CModelSpec)

/-- ITS FALSE NEIGHBOUR: 'it returns false'. Refute it at one input. -/
def lawS1468CModelWrong : ChangeSpec := { name := "lawS1468CModel", fn := fun _ => fun
  | [d] => { results := [.lit (.bool false)], args := [d] }
  | _ => none }
def LawS1468CModelWrongFalsely : Prop := lawS1468CModelRow.holds Yba.pinned (OpenSpec.ofChange lawS1468CModelWrong)

/-- 'nat64.LawS1468CShape': WHATEVER THE INPUT: true; the input reads as it did. -/
def lawS1468CShapeSpec : ChangeSpec := { name := "lawS1468CShape", fn := fun _ => fun
  | [d] => { results := [.lit (.bool true)], args := [d] }
  | _ => none }
def lawS1468CShapeRow : OpenClaim := { program := "ybulkadjm", sum := "31625b6068dd07caa3caa30c8cbd5c7b0fc259cf7cbd03d14b4ef1695f9b4a4a", func := "example.com/hearthzone/hearthzone/internal/nat64.LawS1468CShape", spec := "lawS1468CShape", apart := false }
def LawS1468CShapeSaid : Prop := lawS1468CShapeRow.holds Yba.pinned (OpenSpec.ofChange lawS1468CShapeSpec)

/-- ITS FALSE NEIGHBOUR: 'it returns false'. Refute it at one input. -/
def lawS1468CShapeWrong : ChangeSpec := { name := "lawS1468CShape", fn := fun _ => fun
  | [d] => { results := [.lit (.bool false)], args := [d] }
  | _ => none }
def LawS1468CShapeWrongFalsely : Prop := lawS1468CShapeRow.holds Yba.pinned (OpenSpec.ofChange lawS1468CShapeWrong)

end Rows
end Go.Proofs.Ybulkadjm
