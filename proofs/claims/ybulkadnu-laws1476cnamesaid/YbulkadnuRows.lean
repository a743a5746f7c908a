/-
  No cell of these rows narrows 'for every input' (looked for: loops, veiled, ifaces, maps, wideKeys, modest, calm, conditions, laid).
  DERIVED. THE GIVEN ROWS OF THIS SEAT. 1 by the template 'for every input the law returns true; each argument reads behind the call as it read before'; 0 by the template 'total and deterministic' (their statements: YbulkadnuTotals.lean).
  GIVEN WITH THE SEED: the statements are not yours to turn. If you find one false, say at which input.
  Laid BY PROGRAM, IN A SANDBOX (cutbox-rows.mjs): the forced cells as the released guide's own fill.sh prints them over the translation 0f807348076d8219… (all of the seat's roots in one cut). By AI agents, Wed Nov 11 2026. No macro, syntax, notation, axiom, sorry.
-/
import Derived.Test.YbulkadnuChecked
import GoSem.Claim
import GoSem.ClaimJoined
import GoSem.ClaimMapViews
import Derived.JoinedTies
import Derived.KernelRfl
namespace Go.Proofs.Ybulkadnu
/- THE CELL 'sum', in the pinned program and in every row, IS THE sha256 OF THE DUMP (.gsa) THAT YbulkadnuProg.lean LOADS. Nothing in Lean hashes anything: it is a label: what it is worth is what the hold of that sum in a sandbox is worth. -/
noncomputable def Yba.pinned : Pinned := { name := "ybulkadnu", sum := "0f807348076d8219bd0283c446e647a733ab9fc8c9bf04cc838fae1f0b9c4279", checked := Yba.checked }
namespace Rows
def none {H : Type} : Left H := { results := [], args := [] }

/-- 'configscript.LawS1476CName': WHATEVER THE INPUT: true; the input reads as it did. -/
def lawS1476CNameSpec : ChangeSpec := { name := "lawS1476CName", fn := fun _ => fun
  | [d1, d2, d3, d4, d5, d6] => { results := [.lit (.bool true)], args := [d1, d2, d3, d4, d5, d6] }
  | _ => none }
def lawS1476CNameRow : OpenClaim := { program := "ybulkadnu", sum := "0f807348076d8219bd0283c446e647a733ab9fc8c9bf04cc838fae1f0b9c4279", func := "example.com/faithful-reader/faithful-reader/configscript.LawS1476CName", spec := "lawS1476CName", apart := false }
def LawS1476CNameSaid : Prop := lawS1476CNameRow.holds Yba.pinned (OpenSpec.ofChange lawS1476CNameSpec)

/-- ITS FALSE NEIGHBOUR: 'it returns false'. Refute it at one input. -/
def lawS1476CNameWrong : ChangeSpec := { name := "lawS1476CName", fn := fun _ => fun
  | [d1, d2, d3, d4, d5, d6] => { results := [.lit (.bool false)], args := [d1, d2, d3, d4, d5, d6] }
  | _ => none }
def LawS1476CNameWrongFalsely : Prop := lawS1476CNameRow.holds Yba.pinned (OpenSpec.ofChange lawS1476CNameWrong)

end Rows
end Go.Proofs.Ybulkadnu
