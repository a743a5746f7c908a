import Derived.Test.YbulkadjmFmtRows
import Derived.WalkKit
import Derived.WalkSpells
import Derived.Stop.CallBack
import Derived.Stop.IfaceNil
import GoSem.ClaimData
namespace Go.Proofs.YbulkadjmFmt
open Go.RowKit Go.Extern.Stop Go.Stop Go.Extern

@[go_sem] theorem call15 (args : Array Value) (w : World) : (callFunc 15 args).run Ybaf.prog w = ((FmtStop.errorf #[9, 53] #[42] args).run Ybaf.prog w).andThen fun v w' => .ok (.value v) w' :=
  run_callFunc_extern Ybaf.func15 (by kernel_rfl) (by kernel_rfl) (by kernel_rfl) (by kernel_rfl) args w
@[go_sem] theorem guardF (name : String) (w : World) : (FmtStop.guard name).run Ybaf.prog w = .ok () w := by kernel_rfl
-- "malformed DNS message: %s at byte %d", 2 operands
@[go_sem] theorem fmt0 : FmtStop.printed? ⟨#[109, 97, 108, 102, 111, 114, 109, 101, 100, 32, 68, 78, 83, 32, 109, 101, 115, 115, 97, 103, 101, 58, 32, 37, 115, 32, 97, 116, 32, 98, 121, 116, 101, 32, 37, 100]⟩ 2 = some [(0, 115, false), (1, 100, false)] := by kernel_rfl
@[go_sem] theorem fmt0r (w : World) : (FmtDoors.printed ⟨#[109, 97, 108, 102, 111, 114, 109, 101, 100, 32, 68, 78, 83, 32, 109, 101, 115, 115, 97, 103, 101, 58, 32, 37, 115, 32, 97, 116, 32, 98, 121, 116, 101, 32, 37, 100]⟩ 2).run Ybaf.prog w = .ok [(0, 115, false), (1, 100, false)] w := by kernel_rfl
def shape9 : List UInt8 := [12, 6, 0, 0, 0, 0, 0, 0, 0, 115, 116, 114, 105, 110, 103]
def shape3 : List UInt8 := [5, 3, 0, 0, 0, 0, 0, 0, 0, 105, 110, 116]
@[go_sem] theorem op9_115w (name : String) (x : ByteArray) (w : World) : (FmtStop.operand name true 115 false (.iface 9 (.string x))).run Ybaf.prog w = .ok (shape9, FmtStop.pack x.data.toList) w := by kernel_rfl
@[go_sem] theorem op3_100w (name : String) (x : Int) (w : World) : (FmtStop.operand name true 100 false (.iface 3 (.int .i64 x))).run Ybaf.prog w = .ok (shape3, Go.Extern.Stop.digits 8 (x % 2 ^ 64).toNat) w := by kernel_rfl
@[go_sem] theorem ptr56 (w : World) : (FmtStop.ptrTo "errors.errorString").run Ybaf.prog w = .ok 56 w := by kernel_rfl
@[go_sem] theorem elem56 (w : World) : (elemOf 56).run Ybaf.prog w = .ok 58 w := by kernel_rfl
@[go_sem] theorem isError56 (w : World) : (FmtDoors.textMethod 56 "Error").run Ybaf.prog w = .ok true w := by kernel_rfl

theorem malformed_any (F : Interp) (off : Int) (s : ByteArray) (w : World) (hF : F.answers w.tape) :
    Calls Ybaf.prog 11 #[.int .i64 off, .string s] w fun e w' => (∃ b, e = .returned (.iface 56 (.pointer (some ⟨b, 0, none⟩)))) ∧ Below w.heap.size w w' := by
  have hF' := answers_open hF
  go_enter Ybaf.func11, Ybaf.ntmps11
  go_wp2
  go_ret
  refine ⟨⟨_, rfl⟩, ?_⟩
  exact (((Below.refl _ w).alloc (Nat.le_refl _) _).alloc (by simp) _).drew
end Go.Proofs.YbulkadjmFmt
