import Derived.Test.YbulkadlcFinger
namespace Go.Proofs.Ybulkadlc
open Go.RowKit Go.QuietTail

theorem Blk.cell {w : World} {s : Nat} {d : List Int} (h : Blk w s d) (j : Nat) (hj : j < d.length) : w.cell? ⟨s, j, none⟩ = some (.int .u8 (d.getD j 0)) := by
  rw [cell_of_row w s j _ 23 (0, 0) h]
  simp [cellsId, List.getD_eq_getElem?_getD, hj]
theorem Blk.frozen {w : World} {s : Nat} {d : List Int} (h : Blk w s d) (j : Nat) : w.frozen? ⟨s, j, none⟩ = false := frozen_of_row w s j _ 23 h
theorem Blk.stored {w : World} {s : Nat} {d : List Int} (h : Blk w s d) (j : Nat) (x : Int) : Blk (w.setCell ⟨s, j, none⟩ (.int .u8 x)) s (d.set j x) := by
  have := heap_setCell_same w s j _ 23 (.int .u8 x) h
  unfold Blk
  rw [this]
  simp [cellsId, List.map_set]
theorem grownBy_setCell (w : World) (g j : Nat) (v : Value) : w.grownBy (w.setCell ⟨g, j, none⟩ v) (some g) :=
  ⟨rfl, rfl, rfl, by simp, fun k _ hk => heap_setCell_other w ⟨g, j, none⟩ k v (fun e => hk (by simp [e]))⟩
theorem grownBy_trans {a b c : World} {row : Option Nat} (h : a.grownBy b row) (k : b.grownBy c row) : a.grownBy c row :=
  ⟨k.os.trans h.os, k.tape.trans h.tape, k.output.trans h.output, Nat.le_trans h.size k.size, fun i hi hne => (k.block i (Nat.lt_of_lt_of_le hi h.size) hne).trans (h.block i hi hne)⟩
theorem grownBy_drewN (w : World) (n : Nat) (row : Option Nat) : w.grownBy (w.drewN n) row := ⟨rfl, rfl, rfl, Nat.le_refl _, fun _ _ _ => rfl⟩
theorem grownBy_weak {a b : World} (h : a.grownBy b none) (row : Option Nat) : a.grownBy b row := ⟨h.os, h.tape, h.output, h.size, fun i hi _ => h.block i hi (by simp)⟩
theorem grownBy_of_below {a b : World} (h : Below a.heap.size a b) (row : Option Nat) : a.grownBy b row := ⟨h.os, h.tape, h.output, h.size, fun i hi _ => h.block i hi⟩

def put8 (d : List Int) (o : Nat) (v : Int) : List Int :=
  (((((((d.set o (v / 72057594037927936)).set (o + 1) (v / 281474976710656 % 256)).set (o + 2) (v / 1099511627776 % 256)).set (o + 3) (v / 4294967296 % 256)).set (o + 4) (v / 16777216 % 256)).set (o + 5) (v / 65536 % 256)).set (o + 6) (v / 256 % 256)).set (o + 7) (v % 256)

set_option maxHeartbeats 1000000 in
theorem put64_any (g o n c : Nat) (d : List Int) (v : Int) (w : World) (h : Blk w g d) (hd : d.length = 16) (ho : o + 8 ≤ 16) (hn : 8 ≤ n) (hv0 : 0 ≤ v) (hv1 : v < 18446744073709551616) :
    Calls Yba.prog 23 #[.agg #[], .slice (some ⟨g, o, none⟩) n c, .int .u64 v] w fun e w' => e = .returned (.tuple #[]) ∧ Blk w' g (put8 d o v) ∧ w.grownBy w' (some g) := by
  have hlt := h.lt
  have hne : ¬ g = w.heap.size := by omega
  have c0 := h.cell o (by omega)
  have c1 := h.cell (o + 1) (by omega)
  have c2 := h.cell (o + 2) (by omega)
  have c3 := h.cell (o + 3) (by omega)
  have c4 := h.cell (o + 4) (by omega)
  have c5 := h.cell (o + 5) (by omega)
  have c6 := h.cell (o + 6) (by omega)
  have c7 := h.cell (o + 7) (by omega)
  have f0 := h.frozen o
  have f1 := h.frozen (o + 1)
  have f2 := h.frozen (o + 2)
  have f3 := h.frozen (o + 3)
  have f4 := h.frozen (o + 4)
  have f5 := h.frozen (o + 5)
  have f6 := h.frozen (o + 6)
  have f7 := h.frozen (o + 7)
  have m0 : 0 < n := by omega
  have m1 : (1 : Int) < (n : Int) := by omega
  have m2 : (2 : Int) < (n : Int) := by omega
  have m3 : (3 : Int) < (n : Int) := by omega
  have m4 : (4 : Int) < (n : Int) := by omega
  have m5 : (5 : Int) < (n : Int) := by omega
  have m6 : (6 : Int) < (n : Int) := by omega
  have m7 : (7 : Int) < (n : Int) := by omega
  have H : Hid (Blk w g d) := h
  clear h
  go_enter Yba.func23, Yba.ntmps23
  go_wp2
  go_end0
  refine ⟨rfl, ?_, ?_⟩
  · exact ((((((((H.out.stored _ _).stored _ _).stored _ _).stored _ _).stored _ _).stored _ _).stored _ _).stored _ _).alloc _
  · exact grownBy_trans (grownBy_trans (grownBy_trans (grownBy_trans (grownBy_trans (grownBy_trans (grownBy_trans (grownBy_trans (grownBy_setCell _ _ _ _) (grownBy_setCell _ _ _ _)) (grownBy_setCell _ _ _ _)) (grownBy_setCell _ _ _ _)) (grownBy_setCell _ _ _ _)) (grownBy_setCell _ _ _ _)) (grownBy_setCell _ _ _ _)) (grownBy_setCell _ _ _ _)) (World.grownBy_alloc _ _ _)
end Go.Proofs.Ybulkadlc
