/-
  DERIVED. GIVEN WITH THE SEED: THE CARDS: each row of YbulkadjmFmtRows.lean that lists a variable, with what it lists TIED to the program's text (the seventh form; the later family's looks); each row that meets fmt, with fmt's text TOLD by the authors' own Lean function (tested against real Go, not proved from fmt's source: count such statements apart). THE CARD IS WHAT COUNTS. Prove the row's statement (the work); the ties are given (YbulkadjmFmtTie.lean); close each card by the builder's one call (the guide's Derived/Test/ToyasCard.lean, 'card_holds'). Laid BY PROGRAM, IN A SANDBOX (cutbox-door.mjs). By AI agents, Wed Nov 11 2026. No macro, syntax, notation, axiom, sorry.
-/
import Derived.Test.YbulkadjmFmtRows
import GoSem.ClaimSeven
namespace Go.Proofs.YbulkadjmFmt
namespace Rows

/-- THE TOLD CARD OF 'dns.LawS1468BReaddress'. -/
def lawS1468BReaddressCard : Claim7 := { stood := { row := lawS1468BReaddressRow, standIns := [], harness := (true, "8cc9d225a6ce7ac1ee0dc25677158dc2b80b6b068801b78cb5e16183e282ea29"), looks := false }, told := true, goes := false }
def LawS1468BReaddressToldSaid : Prop := Claim7.holds Ybaf.pinned (.plain (OpenSpec.ofChange lawS1468BReaddressSpec)) lawS1468BReaddressCard
/-- ITS FALSE NEIGHBOUR. Refute it at one input. -/
def LawS1468BReaddressToldWrongFalsely : Prop := Claim7.holds Ybaf.pinned (.plain (OpenSpec.ofChange lawS1468BReaddressWrong)) lawS1468BReaddressCard
end Rows
end Go.Proofs.YbulkadjmFmt
