/-
  No cell of these rows narrows 'for every input' (looked for: loops, veiled, ifaces, maps, wideKeys, modest, calm, conditions, laid).
  DERIVED. THE GIVEN ROWS OF THIS SEAT. 2 by the template 'for every input the law returns true; each argument reads behind the call as it read before'; 0 by the template 'total and deterministic' (their statements: YbulkadpkTotals.lean).
  GIVEN WITH THE SEED: the statements are not yours to turn. If you find one false, say at which input.
  Laid BY PROGRAM, IN A SANDBOX (cutbox-rows.mjs): the forced cells as the released guide's own fill.sh prints them over the translation fdc6ebddb3b13b16… (all of the seat's roots in one cut). By AI agents, Wed Nov 11 2026. No macro, syntax, notation, axiom, sorry.
-/
import Derived.Test.YbulkadpkChecked
import GoSem.Claim
import GoSem.ClaimJoined
import GoSem.ClaimMapViews
import Derived.JoinedTies
import Derived.KernelRfl
namespace Go.Proofs.Ybulkadpk
/- THE CELL 'sum', in the pinned program and in every row, IS THE sha256 OF THE DUMP (.gsa) THAT YbulkadpkProg.lean LOADS. Nothing in Lean hashes anything: it is a label: what it is worth is what the hold of that sum in a sandbox is worth. -/
noncomputable def Yba.pinned : Pinned := { name := "ybulkadpk", sum := "fdc6ebddb3b13b16973d54a86bd62102dcde437d8227abb5c66c5f54e4ecd7d8", checked := Yba.checked }
namespace Rows
def none {H : Type} : Left H := { results := [], args := [] }

/-- 'store.LawS1479BMerge': WHATEVER THE INPUT: true; the input reads as it did. -/
def lawS1479BMergeSpec : ChangeSpec := { name := "lawS1479BMerge", fn := fun _ => fun
  | [d1, d2, d3, d4] => { results := [.lit (.bool true)], args := [d1, d2, d3, d4] }
  | _ => none }
def lawS1479BMergeRow : OpenClaim := { program := "ybulkadpk", sum := "fdc6ebddb3b13b16973d54a86bd62102dcde437d8227abb5c66c5f54e4ecd7d8", func := "example.com/tallywire/tallywire/internal/store.LawS1479BMerge", spec := "lawS1479BMerge", inPlace := ["internal/bytealg.abigen_runtime_cmpstring"], apart := false }
def LawS1479BMergeSaid : Prop := lawS1479BMergeRow.holds Yba.pinned (OpenSpec.ofChange lawS1479BMergeSpec)

/-- ITS FALSE NEIGHBOUR: 'it returns false'. Refute it at one input. -/
def lawS1479BMergeWrong : ChangeSpec := { name := "lawS1479BMerge", fn := fun _ => fun
  | [d1, d2, d3, d4] => { results := [.lit (.bool false)], args := [d1, d2, d3, d4] }
  | _ => none }
def LawS1479BMergeWrongFalsely : Prop := lawS1479BMergeRow.holds Yba.pinned (OpenSpec.ofChange lawS1479BMergeWrong)

/-- 'store.LawS1479CServed': WHATEVER THE INPUT: true; the input reads as it did. -/
def lawS1479CServedSpec : ChangeSpec := { name := "lawS1479CServed", fn := fun _ => fun
  | [d1, d2, d3] => { results := [.lit (.bool true)], args := [d1, d2, d3] }
  | _ => none }
def lawS1479CServedRow : OpenClaim := { program := "ybulkadpk", sum := "fdc6ebddb3b13b16973d54a86bd62102dcde437d8227abb5c66c5f54e4ecd7d8", func := "example.com/tallywire/tallywire/internal/store.LawS1479CServed", spec := "lawS1479CServed", unfollowed := true, recurses := true, apart := false }
def LawS1479CServedSaid : Prop := lawS1479CServedRow.holds Yba.pinned (OpenSpec.ofChange lawS1479CServedSpec)

/-- ITS FALSE NEIGHBOUR: 'it returns false'. Refute it at one input. -/
def lawS1479CServedWrong : ChangeSpec := { name := "lawS1479CServed", fn := fun _ => fun
  | [d1, d2, d3] => { results := [.lit (.bool false)], args := [d1, d2, d3] }
  | _ => none }
def LawS1479CServedWrongFalsely : Prop := lawS1479CServedRow.holds Yba.pinned (OpenSpec.ofChange lawS1479CServedWrong)

end Rows
end Go.Proofs.Ybulkadpk
