/-
  No cell of these rows narrows 'for every input' (looked for: loops, veiled, ifaces, maps, wideKeys, modest, calm, conditions, laid).
  DERIVED. THE GIVEN ROWS OF THIS SEAT. 1 by the template 'for every input the law returns true; each argument reads behind the call as it read before'; 0 by the template 'total and deterministic' (their statements: YbulkadjmFmtTotals.lean).
  GIVEN WITH THE SEED: the statements are not yours to turn. If you find one false, say at which input.
  Laid BY PROGRAM, IN A SANDBOX (cutbox-rows.mjs): the forced cells as the released guide's own fill.sh prints them over the translation 4fe0ac315d70d341… (all of the seat's roots in one cut). By AI agents, Wed Nov 11 2026. No macro, syntax, notation, axiom, sorry.
-/
import Derived.Test.YbulkadjmFmtChecked
import GoSem.Claim
import GoSem.ClaimJoined
import GoSem.ClaimMapViews
import Derived.JoinedTies
import Derived.KernelRfl
namespace Go.Proofs.YbulkadjmFmt
/- THE CELL 'sum', in the pinned program and in every row, IS THE sha256 OF THE DUMP (.gsa) THAT YbulkadjmFmtProg.lean LOADS. Nothing in Lean hashes anything: it is a label: what it is worth is what the hold of that sum in a sandbox is worth. -/
noncomputable def Ybaf.pinned : Pinned := { name := "ybulkadjmfmt", sum := "4fe0ac315d70d341070ca51ab3d2dc1b08d2416aedefb08aea43311dad4e8bb7", checked := Ybaf.checked }
namespace Rows
def none {H : Type} : Left H := { results := [], args := [] }

/-- 'dns.LawS1468BReaddress': WHATEVER THE INPUT: true; the input reads as it did. -/
def lawS1468BReaddressSpec : ChangeSpec := { name := "lawS1468BReaddress", fn := fun _ => fun
  | [d1, d2, d3, d4, d5, d6, d7, d8, d9] => { results := [.lit (.bool true)], args := [d1, d2, d3, d4, d5, d6, d7, d8, d9] }
  | _ => none }
def lawS1468BReaddressRow : OpenClaim := { program := "ybulkadjmfmt", sum := "4fe0ac315d70d341070ca51ab3d2dc1b08d2416aedefb08aea43311dad4e8bb7", func := "example.com/hearthzone/hearthzone/internal/dns.LawS1468BReaddress", spec := "lawS1468BReaddress", stops := ["fmt.errorf"], inPlace := ["fmt.errorf"], named := ["encoding/binary.BigEndian"], apart := false }
/-- NO THEOREM (fmt's text is open here; it may be false): for the released tool's asking of the row's closed facts alone. THE STATEMENT IS 'LawS1468BReaddressToldSaid' (YbulkadjmFmtCards.lean). -/
def LawS1468BReaddressFormAsk : Prop := lawS1468BReaddressRow.holds Ybaf.pinned (OpenSpec.ofChange lawS1468BReaddressSpec)

/-- ITS FALSE NEIGHBOUR: 'it returns false'. Refute it at one input. -/
def lawS1468BReaddressWrong : ChangeSpec := { name := "lawS1468BReaddress", fn := fun _ => fun
  | [d1, d2, d3, d4, d5, d6, d7, d8, d9] => { results := [.lit (.bool false)], args := [d1, d2, d3, d4, d5, d6, d7, d8, d9] }
  | _ => none }
def LawS1468BReaddressWrongFormAsk : Prop := lawS1468BReaddressRow.holds Ybaf.pinned (OpenSpec.ofChange lawS1468BReaddressWrong)

end Rows
end Go.Proofs.YbulkadjmFmt
