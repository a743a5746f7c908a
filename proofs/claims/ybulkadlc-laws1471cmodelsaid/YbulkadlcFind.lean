import Derived.Test.YbulkadlcBin
namespace Go.Proofs.Ybulkadlc
open Go.RowKit Go.QuietTail
set_option linter.unusedVariables false
set_option linter.unusedSimpArgs false

/-- The block of the Tables: Self, Predecessors, Successors, fingers. -/
def TBlk (w : World) (T : Nat) (self : List Int) (vp vs vf : Value) : Prop := w.heap[T]? = some (.cells (cellsId self ++ [vp, vs, vf]).toArray 33 (0, 0))
theorem TBlk.later {w w' : World} {T : Nat} {self : List Int} {vp vs vf : Value} (h : TBlk w T self vp vs vf) (hb : Below w.heap.size w w') : TBlk w' T self vp vs vf := by
  unfold TBlk at *
  rw [hb.block T (Array.getElem?_eq_some_iff.1 h).1]
  exact h
theorem TBlk.lt {w : World} {T : Nat} {self : List Int} {vp vs vf : Value} (h : TBlk w T self vp vs vf) : T < w.heap.size := (Array.getElem?_eq_some_iff.1 h).1
theorem TBlk.cellF {w : World} {T : Nat} {self : List Int} {vp vs vf : Value} (h : TBlk w T self vp vs vf) (hs : self.length = 16) : w.cell? ⟨T, 18, none⟩ = some vf := by
  rw [cell_of_row w T 18 _ 33 (0, 0) h]
  simp [cellsId, hs, List.getElem?_append]
theorem TBlk.cellS {w : World} {T : Nat} {self : List Int} {vp vs vf : Value} (h : TBlk w T self vp vs vf) (hs : self.length = 16) : w.cell? ⟨T, 17, none⟩ = some vs := by
  rw [cell_of_row w T 17 _ 33 (0, 0) h]
  simp [cellsId, hs, List.getElem?_append]
theorem TBlk.self {w : World} {T : Nat} {self : List Int} {vp vs vf : Value} (h : TBlk w T self vp vs vf) : w.rangeAt T 0 (cellsId self) := fun j v hv => by
  rw [cell_of_row w T (0 + j) _ 33 (0, 0) h]
  obtain ⟨h1, h2⟩ := List.getElem?_eq_some_iff.1 hv
  simp [List.getElem?_append, h1, h2]

set_option maxHeartbeats 1000000 in
theorem find_any (T B : Nat) (self : List Int) (vp vs vf : Value) (l : List Fg) (i : Int) (hi0 : 0 ≤ i) (hi1 : i ≤ 255) (hs : self.length = 16) (hok : FOk l) (hasc : Asc l) (hl : l.length ≤ 1024) (w : World)
    (hTB : TBlk w T self vp vs vf) (hT : Tab w B vf l) :
    Calls Yba.prog 24 #[.pointer (some ⟨T, 0, none⟩), .int .i64 i] w fun e w' => ∃ k : Nat, Place l i k ∧ e = .returned (.tuple #[.int .i64 k, .bool (isAt l i k)]) ∧ Below w.heap.size w w' := by
  have hc := hTB.cellF hs
  rcases hT.2 with ⟨hv, hn⟩ | ⟨g, cap, cur, hv, _⟩
  · subst hv
    have HL : Hid (l = []) := List.eq_nil_of_length_eq_zero hn
    clear hT hn
    go_enter Yba.func24, Yba.ntmps24
    go_wp2_with (go_at_call 33; refine (bsearch_nil i _).mono ?_; rintro e w1 ⟨rfl, hb1⟩)
    go_ret2
    have e := HL.out
    subst e
    exact ⟨0, ⟨Nat.zero_le _, fun j x hj _ => by simp at hj, fun j x hj _ => by simp at hj⟩, rfl, hb1⟩
  · subst hv
    have HT : Hid (Tab w B (.slice (some ⟨g, 0, none⟩) l.length cap) l) := hT
    have hg : g < w.heap.size := (World.ownsRow.lt hT g rfl).2
    clear hT
    go_enter Yba.func24, Yba.ntmps24
    go_wp2_with (go_at_call 33; refine (bsearch_some g cap B l i hi0 hi1 hok hasc hl _ HT.out hg).mono ?_; rintro e w1 ⟨k, hk, rfl, hb1⟩)
    go_ret2
    exact ⟨k, hk, rfl, hb1⟩
end Go.Proofs.Ybulkadlc
