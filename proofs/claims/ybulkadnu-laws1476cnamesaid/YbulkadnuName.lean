import Derived.Test.YbulkadnuRows
import Derived.WalkKit
import Derived.ProofKit
import Derived.OpenShut
import Derived.Below
import Derived.Test.YbulkadnuQT
import Derived.Deep.QuietTactic
import Derived.BigQuiet
namespace Go.Proofs.Ybulkadnu
open Go.RowKit Go.QuietTail

theorem Yba.cells29 : Yba.prog.cellsOf 29 = 8 := by kernel_rfl
theorem Yba.cells9 : Yba.prog.cellsOf 9 = 1 := by kernel_rfl
theorem Yba.cells31 : Yba.prog.cellsOf 31 = 2 := by kernel_rfl
theorem Yba.cells34 : Yba.prog.cellsOf 34 = 3 := by kernel_rfl

theorem cell_from {w w' : World} {a : Addr} {v : Value} (hb : Below w.heap.size w w') (h : w.cell? a = some v) : w'.cell? a = some v := (hb.cell (World.block_lt_of_cell? w a h)).trans h
theorem Below.drewN' (n : Nat) (w : World) (m : Nat) : Below n w (w.drewN m) := ⟨rfl, rfl, rfl, Nat.le_refl _, fun _ _ => rfl⟩

theorem token_any (t nb : Nat) (text : ByteArray) (a e : Int) (w : World) (c0 : w.cell? ⟨t, 0, none⟩ = some (.string text)) (c1 : w.cell? ⟨t, 1, none⟩ = some (.slice (some ⟨nb, 0, none⟩) 3 3))
    (n3 : w.cell? ⟨nb, 11, none⟩ = some (.int .u32 a)) (n4 : w.cell? ⟨nb, 12, none⟩ = some (.int .u32 e)) (ha : 0 ≤ a) (hae : a ≤ e) (he : e ≤ text.size) :
    Calls Yba.prog 5 #[.pointer (some ⟨t, 0, none⟩), .int .u32 1] w fun x w' => x = .returned (.string (text.extract a.toNat e.toNat)) ∧ ∃ m, w' = w.drewN m := by
  go_enter Yba.func5, Yba.ntmps5
  go_wp2
  go_quiet (fail)
  go_wp2
  go_ret
  exact ⟨rfl, _, rfl⟩

theorem token_at (t nb : Nat) (text : ByteArray) (a e : Nat) (w : World) (n : Nat) (c0 : w.cell? ⟨t, 0, none⟩ = some (.string text)) (c1 : w.cell? ⟨t, 1, none⟩ = some (.slice (some ⟨nb, 0, none⟩) 3 3))
    (n3 : w.cell? ⟨nb, 11, none⟩ = some (.int .u32 (a : Int))) (n4 : w.cell? ⟨nb, 12, none⟩ = some (.int .u32 (e : Int))) (hae : a ≤ e) (he : e ≤ text.size) :
    Calls Yba.prog 5 #[.pointer (some ⟨t, 0, none⟩), .int .u32 1] (w.drewN n) fun x w' => x = .returned (.string (text.extract a e)) ∧ ∃ m, w' = w.drewN m := by
  refine (token_any t nb text a e (w.drewN n) (by simpa using c0) (by simpa using c1) (by simpa using n3) (by simpa using n4) (by omega) (by omega) (by omega)).mono ?_
  rintro x w' ⟨rfl, m, rfl⟩
  exact ⟨by simp, n + m, by simp⟩

/-- What the walk is told of the tree: node 1's own cells, and the tree's three. -/
structure TreeAt (w : World) (t nb : Nat) (text : ByteArray) (a e f : Int) (na : Option Addr) (len cap : Nat) : Prop where
  c0 : w.cell? ⟨t, 0, none⟩ = some (.string text)
  c1 : w.cell? ⟨t, 1, none⟩ = some (.slice (some ⟨nb, 0, none⟩) 3 3)
  c2 : w.cell? ⟨t, 2, none⟩ = some (.slice na len cap)
  n2 : w.cell? ⟨nb, 10, none⟩ = some (.int .u8 f)
  n3 : w.cell? ⟨nb, 11, none⟩ = some (.int .u32 a)
  n4 : w.cell? ⟨nb, 12, none⟩ = some (.int .u32 e)

theorem name_apart (t nb nm : Nat) (off : Nat) (text s : ByteArray) (a e : Nat) (f : Int) (len cap : Nat) (w : World) (h : TreeAt w t nb text a e f (some ⟨nm, off, none⟩) len cap)
    (ha : a < 4294967296) (he : e < len) (hs : w.cell? ⟨nm, off + e, none⟩ = some (.string s)) (hf : (bits BinOp.and IntKind.u8 f 4 != 0) = true) :
    Calls Yba.prog 4 #[.pointer (some ⟨t, 0, none⟩), .int .u32 1] w fun x w' => x = .returned (.agg #[.int .i64 a, .string s]) ∧ Below w.heap.size w w' := by
  obtain ⟨c0, c1, c2, n2, n3, n4⟩ := h
  have t0 := World.block_lt_of_cell? _ _ c0
  have b0 := World.block_lt_of_cell? _ _ n2
  have m0 := World.block_lt_of_cell? _ _ hs
  have t1 : ¬ t = w.heap.size := by simp at t0; omega
  have b1 : ¬ nb = w.heap.size := by simp at b0; omega
  have m1 : ¬ nm = w.heap.size := by simp at m0; omega
  have he' : (e : Int) < (len : Int) := by omega
  go_enter Yba.func4, Yba.ntmps4
  go_wp2
  refine wp_region_drew_tail 16 (by kernel_rfl) (by kernel_rfl) ?_
  simp only [List.take_succ_cons, List.take_zero, List.drop_succ_cons, List.drop_zero]
  iterate 16 (go_big_quiet_step (fail))
  refine wpQuiet_nil ?_
  intro wx hwx
  obtain ⟨nq, rfl⟩ := hwx
  go_wp2
  refine bodyPost_ret (v := .agg #[.int .i64 a, .string s]) (by simp [results, Yba.results4, go_sem]) rfl ⟨rfl, ?_⟩
  exact ((((Below.refl _ w).alloc (Nat.le_refl _) _).trans (Below.drewN' _ _ nq)).setCell (by simp) _).setCell (by simp) _

theorem name_spelt (t nb : Nat) (text : ByteArray) (a e : Nat) (f : Int) (na : Option Addr) (len cap : Nat) (w : World) (h : TreeAt w t nb text a e f na len cap)
    (ha : a < 4294967296) (hae : a ≤ e) (he : e ≤ text.size) (hf : (bits BinOp.and IntKind.u8 f 4 != 0) = false) :
    Calls Yba.prog 4 #[.pointer (some ⟨t, 0, none⟩), .int .u32 1] w fun x w' => x = .returned (.agg #[.int .i64 a, .string (text.extract a e)]) ∧ Below w.heap.size w w' := by
  obtain ⟨c0, c1, c2, n2, n3, n4⟩ := h
  have t0 := World.block_lt_of_cell? _ _ c0
  have b0 := World.block_lt_of_cell? _ _ n2
  have t1 : ¬ t = w.heap.size := by simp at t0; omega
  have b1 : ¬ nb = w.heap.size := by simp at b0; omega
  go_enter Yba.func4, Yba.ntmps4
  go_wp2
  refine wp_region_drew_tail 9 (by kernel_rfl) (by kernel_rfl) ?_
  simp only [List.take_succ_cons, List.take_zero, List.drop_succ_cons, List.drop_zero]
  iterate 7 (go_big_quiet_step (fail))
  go_big_quiet_want
  go_big_quiet_op
  refine ⟨_, fun p => token_at t nb text a e _ p ?_ ?_ ?_ ?_ hae he, ?_⟩
  · exact cell_from ((Below.refl _ w).alloc (Nat.le_refl _) _) c0
  · exact cell_from ((Below.refl _ w).alloc (Nat.le_refl _) _) c1
  · exact cell_from ((Below.refl _ w).alloc (Nat.le_refl _) _) n3
  · exact cell_from ((Below.refl _ w).alloc (Nat.le_refl _) _) n4
  go_big_quiet_on
  go_big_quiet_step (fail)
  refine wpQuiet_nil ?_
  intro wx hwx
  obtain ⟨nq, rfl⟩ := hwx
  go_wp2
  refine bodyPost_ret (v := .agg #[.int .i64 a, .string (text.extract a e)]) (by simp [results, Yba.results4, go_sem]) rfl ⟨rfl, ?_⟩
  exact ((((Below.refl _ w).alloc (Nat.le_refl _) _).trans (Below.drewN' _ _ nq)).setCell (by simp) _).setCell (by simp) _
end Go.Proofs.Ybulkadnu
