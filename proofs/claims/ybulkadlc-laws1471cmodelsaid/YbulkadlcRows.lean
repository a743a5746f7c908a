/-
  No cell of these rows narrows 'for every input' (looked for: loops, veiled, ifaces, maps, wideKeys, modest, calm, conditions, laid).
  DERIVED. THE GIVEN ROWS OF THIS SEAT. 3 by the template 'for every input the law returns true; each argument reads behind the call as it read before'; 0 by the template 'total and deterministic' (their statements: YbulkadlcTotals.lean).
  GIVEN WITH THE SEED: the statements are not yours to turn. If you find one false, say at which input.
  Laid BY PROGRAM, IN A SANDBOX (cutbox-rows.mjs): the forced cells as the released guide's own fill.sh prints them over the translation 0a1152e3ec8ed789… (all of the seat's roots in one cut). By AI agents, Wed Nov 11 2026. No macro, syntax, notation, axiom, sorry.
-/
import Derived.Test.YbulkadlcChecked
import GoSem.Claim
import GoSem.ClaimJoined
import GoSem.ClaimMapViews
import Derived.JoinedTies
import Derived.KernelRfl
namespace Go.Proofs.Ybulkadlc
/- THE CELL 'sum', in the pinned program and in every row, IS THE sha256 OF THE DUMP (.gsa) THAT YbulkadlcProg.lean LOADS. Nothing in Lean hashes anything: it is a label: what it is worth is what the hold of that sum in a sandbox is worth. -/
noncomputable def Yba.pinned : Pinned := { name := "ybulkadlc", sum := "0a1152e3ec8ed789339002fdc8634dfb81e65ead499c23e54517e35c524e461c", checked := Yba.checked }
namespace Rows
def none {H : Type} : Left H := { results := [], args := [] }

/-- 'chord.LawS1471BModel': WHATEVER THE INPUT: true; the input reads as it did. -/
def lawS1471BModelSpec : ChangeSpec := { name := "lawS1471BModel", fn := fun _ => fun
  | [d1, d2, d3, d4] => { results := [.lit (.bool true)], args := [d1, d2, d3, d4] }
  | _ => none }
def lawS1471BModelRow : OpenClaim := { program := "ybulkadlc", sum := "0a1152e3ec8ed789339002fdc8634dfb81e65ead499c23e54517e35c524e461c", func := "example.com/fathomline/fathomline/internal/chord.LawS1471BModel", spec := "lawS1471BModel", inPlace := ["math/bits.Add64", "slices.overlaps[example.com/fathomline/fathomline/internal/chord.finger]", "math/bits.Sub64"], unfollowed := true, recurses := true, named := ["encoding/binary.BigEndian"], apart := false }
def LawS1471BModelSaid : Prop := lawS1471BModelRow.holds Yba.pinned (OpenSpec.ofChange lawS1471BModelSpec)

/-- ITS FALSE NEIGHBOUR: 'it returns false'. Refute it at one input. -/
def lawS1471BModelWrong : ChangeSpec := { name := "lawS1471BModel", fn := fun _ => fun
  | [d1, d2, d3, d4] => { results := [.lit (.bool false)], args := [d1, d2, d3, d4] }
  | _ => none }
def LawS1471BModelWrongFalsely : Prop := lawS1471BModelRow.holds Yba.pinned (OpenSpec.ofChange lawS1471BModelWrong)

/-- 'chord.LawS1471CModel': WHATEVER THE INPUT: true; the input reads as it did. -/
def lawS1471CModelSpec : ChangeSpec := { name := "lawS1471CModel", fn := fun _ => fun
  | [d1, d2, d3, d4, d5] => { results := [.lit (.bool true)], args := [d1, d2, d3, d4, d5] }
  | _ => none }
def lawS1471CModelRow : OpenClaim := { program := "ybulkadlc", sum := "0a1152e3ec8ed789339002fdc8634dfb81e65ead499c23e54517e35c524e461c", func := "example.com/fathomline/fathomline/internal/chord.LawS1471CModel", spec := "lawS1471CModel", inPlace := ["math/bits.Sub64"], unfollowed := true, recurses := true, named := ["encoding/binary.BigEndian"], apart := false }
def LawS1471CModelSaid : Prop := lawS1471CModelRow.holds Yba.pinned (OpenSpec.ofChange lawS1471CModelSpec)

/-- ITS FALSE NEIGHBOUR: 'it returns false'. Refute it at one input. -/
def lawS1471CModelWrong : ChangeSpec := { name := "lawS1471CModel", fn := fun _ => fun
  | [d1, d2, d3, d4, d5] => { results := [.lit (.bool false)], args := [d1, d2, d3, d4, d5] }
  | _ => none }
def LawS1471CModelWrongFalsely : Prop := lawS1471CModelRow.holds Yba.pinned (OpenSpec.ofChange lawS1471CModelWrong)

/-- 'chord.LawS1471CAgreesWithAdd': WHATEVER THE INPUT: true; the input reads as it did. -/
def lawS1471CAgreesWithAddSpec : ChangeSpec := { name := "lawS1471CAgreesWithAdd", fn := fun _ => fun
  | [d1, d2, d3, d4, d5] => { results := [.lit (.bool true)], args := [d1, d2, d3, d4, d5] }
  | _ => none }
def lawS1471CAgreesWithAddRow : OpenClaim := { program := "ybulkadlc", sum := "0a1152e3ec8ed789339002fdc8634dfb81e65ead499c23e54517e35c524e461c", func := "example.com/fathomline/fathomline/internal/chord.LawS1471CAgreesWithAdd", spec := "lawS1471CAgreesWithAdd", inPlace := ["math/bits.Sub64"], unfollowed := true, recurses := true, named := ["encoding/binary.BigEndian"], apart := false }
def LawS1471CAgreesWithAddSaid : Prop := lawS1471CAgreesWithAddRow.holds Yba.pinned (OpenSpec.ofChange lawS1471CAgreesWithAddSpec)

/-- ITS FALSE NEIGHBOUR: 'it returns false'. Refute it at one input. -/
def lawS1471CAgreesWithAddWrong : ChangeSpec := { name := "lawS1471CAgreesWithAdd", fn := fun _ => fun
  | [d1, d2, d3, d4, d5] => { results := [.lit (.bool false)], args := [d1, d2, d3, d4, d5] }
  | _ => none }
def LawS1471CAgreesWithAddWrongFalsely : Prop := lawS1471CAgreesWithAddRow.holds Yba.pinned (OpenSpec.ofChange lawS1471CAgreesWithAddWrong)

end Rows
end Go.Proofs.Ybulkadlc
