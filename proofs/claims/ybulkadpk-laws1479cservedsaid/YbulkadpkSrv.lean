import Derived.Test.YbulkadpkSpt
import Derived.Maps.Views
import Derived.StringKeys
namespace Go.Proofs.Ybulkadpk
open Go.RowKit Go.QuietTail
set_option linter.unusedVariables false
set_option linter.unusedSimpArgs false

def bitOf (mask k : Int) : Bool := bits BinOp.and .u8 (mask / 2 ^ (k % 3).toNat) 1 == 1
/-- The map at block m says for each name whether its bit of the mask is set. -/
def SplitMap (w : World) (m : Nat) (mask : Int) : Prop :=
  ∃ n, ∃ D : DataW Unit, w.ownsMap Yba.prog 9 (plainElem Yba.prog 4) m n D ∧ ∀ k : Int, D.atKey (.string (nmB k).data.toList) (.lit (.bool false)) = .lit (.bool (bitOf mask k))
theorem SplitMap.lt {w : World} {m : Nat} {mask : Int} (h : SplitMap w m mask) : m < w.heap.size := let ⟨_, _, h, _⟩ := h; h.lt
theorem SplitMap.later {w w' : World} {n m : Nat} {mask : Int} (h : SplitMap w m mask) (hb : Below n w w') (hn : m < n) : SplitMap w' m mask := by
  obtain ⟨n, D, ⟨es, clock, h1, h2⟩, h3⟩ := h
  exact ⟨n, D, ⟨es, clock, (hb.block m hn).trans h1, h2⟩, h3⟩
theorem zero4 (w : World) : (zeroValue 4).run Yba.prog w = .ok (.bool false) w := Yba.zeroValue4 w
theorem SplitMap.look {w : World} {m : Nat} {mask : Int} (h : SplitMap w m mask) (k : Int) : Sem.run Yba.prog (Instr.lookup 44 (.map (some m)) (.string (nmB k)) false) w = .ok (.bool (bitOf mask k)) w := by
  obtain ⟨n, D, ho, hD⟩ := h
  obtain ⟨v, ps, hrun, hv⟩ := ho.lookup (Maps.string_keyed Yba.underlying9) Yba.underlying44 (zero4 w) (plainElem_bool Yba.underlying4 false) (WideMaps.keyOf_string_mk Yba.underlying9 (s := nmB k) (by rw [nmB_size]; decide))
  rw [hD k] at hv
  have : ∀ u : Value, plainElem (H := Unit) Yba.prog 4 u = some (.lit (.bool (bitOf mask k)), ps) → u = .bool (bitOf mask k) := fun u hu => by
    cases u <;> simp [plainElem, Yba.underlying4] at hu
    rw [hu.1]
  rw [hrun, this v hv]

theorem served_at (c : Bool) (k : Int) (prom : Bool) (ms : Value) (m : Nat) (mask : Int) (w : World) (hm : SplitMap w m mask) :
    Calls Yba.prog 19 #[.agg (famC (nmB k) (tyB c) prom ms).toArray, .map (some m)] w fun e w' => e = .returned (.bool (c && bitOf mask k)) ∧ Below w.heap.size w w' := by
  have hB : Below w.heap.size w (w.alloc (.cells (famC (nmB k) (tyB c) prom ms).toArray 79)) := (Below.refl _ w).alloc (Nat.le_refl _) _
  have hl := (hm.later hB hm.lt).look k
  have hb := Blk.new w 79 (famC (nmB k) (tyB c) prom ms)
  have c0 : (w.alloc (.cells (famC (nmB k) (tyB c) prom ms).toArray 79)).cell? ⟨w.heap.size, 0, none⟩ = some (.string (nmB k)) := hb.cell 0
  have c1 : (w.alloc (.cells (famC (nmB k) (tyB c) prom ms).toArray 79)).cell? ⟨w.heap.size, 1, none⟩ = some (.string (tyB c)) := hb.cell 1
  clear hb
  cases c
  · have ht : ((tyB false).toList == [99, 111, 117, 110, 116, 101, 114]) = false := by decide +kernel
    go_enter Yba.func19, Yba.ntmps19
    go_wp2
    go_ret
    exact ⟨rfl, hB⟩
  · have ht : ((tyB true).toList == [99, 111, 117, 110, 116, 101, 114]) = true := by decide +kernel
    go_enter Yba.func19, Yba.ntmps19
    go_wp2
    go_ret
    exact ⟨by simp, hB⟩
end Go.Proofs.Ybulkadpk
