import Derived.Test.YbulkadlcGap
namespace Go.Proofs.Ybulkadlc
open Go.RowKit Go.QuietTail

def fing (a b : List Int) : Int := if gapHi a b = 0 then (if gapLo a b = 0 then 0 else 129 - len64 (gapLo a b)) else 65 - len64 (gapHi a b)
theorem gapHi_bd (a b : List Int) : 0 ≤ gapHi a b ∧ gapHi a b < 18446744073709551616 := by unfold gapHi; omega
theorem gapLo_bd (a b : List Int) : 0 ≤ gapLo a b ∧ gapLo a b < 18446744073709551616 := by unfold gapLo; omega
theorem fing_bd (a b : List Int) : 0 ≤ fing a b ∧ fing a b ≤ 128 := by
  have h1 := gapHi_bd a b
  have h2 := gapLo_bd a b
  unfold fing
  split
  · split
    · omega
    · have := len64_bd (gapLo a b) (by omega) h2.2; omega
  · have := len64_bd (gapHi a b) (by omega) h1.2; omega

theorem finger_any (a b : List Int) (ha : IdOk a) (hb : IdOk b) (w : World) :
    Calls Yba.prog 9 #[idv a, idv b] w fun e w' => e = .returned (.int .i64 (fing a b)) ∧ Below w.heap.size w w' := by
  have g1 := gapHi_bd a b
  have g2 := gapLo_bd a b
  unfold idv
  have B2 := (Blk.new w a).alloc (.cells (cellsId b).toArray 23)
  have B3 := Blk.new (w.alloc (.cells (cellsId a).toArray 23)) b
  rw [World.size_alloc] at B3
  have hB := ((Below.refl w.heap.size w).alloc (Nat.le_refl _) (.cells (cellsId a).toArray 23)).alloc (by simp) (.cells (cellsId b).toArray 23)
  have hz : w.heap.size ≤ ((w.alloc (.cells (cellsId a).toArray 23)).alloc (.cells (cellsId b).toArray 23)).heap.size := by simp; omega
  go_enter Yba.func9, Yba.ntmps9
  go_wp2_with (first | (refine wpList_load_id rfl (.tmp 2) rfl _ rfl a ha.1 B2 ?_) | (refine wpList_load_id rfl (.tmp 3) rfl _ rfl b hb.1 B3 ?_))
  refine (gap_any a b ha hb _).mono ?_
  rintro e w1 ⟨rfl, hb1⟩
  have HB : Hid (Below w.heap.size w w1) := hB.trans (hb1.mono hz)
  clear B2 B3 hB hz hb1
  by_cases h1 : gapHi a b = 0
  · by_cases h2 : gapLo a b = 0
    · have e1 : (gapHi a b != 0) = false := by simp [h1]
      have e2 : (gapLo a b != 0) = false := by simp [h2]
      have HF : Hid (fing a b = 0) := by show _ = _; unfold fing; rw [if_pos h1, if_pos h2]
      clear h1 h2
      go_wp2
      go_ret
      exact ⟨by rw [HF.out]; rfl, HB.out⟩
    · have e1 : (gapHi a b != 0) = false := by simp [h1]
      have e2 : (gapLo a b != 0) = true := by simp [h2]
      have HF : Hid (fing a b = 129 - len64 (gapLo a b)) := by show _ = _; unfold fing; rw [if_pos h1, if_neg h2]
      have hl := len64_bd (gapLo a b) (by omega) g2.2
      clear h1 h2
      go_wp2_with (go_at_call 27; refine (len64_any _ _ (by omega) (by omega)).mono ?_; rintro e w2 ⟨rfl, rfl⟩)
      go_ret
      exact ⟨by rw [HF.out]; rfl, HB.out⟩
  · have e1 : (gapHi a b != 0) = true := by simp [h1]
    have HF : Hid (fing a b = 65 - len64 (gapHi a b)) := by show _ = _; unfold fing; rw [if_neg h1]
    have hl := len64_bd (gapHi a b) (by omega) g1.2
    clear h1
    go_wp2_with (go_at_call 27; refine (len64_any _ _ (by omega) (by omega)).mono ?_; rintro e w2 ⟨rfl, rfl⟩)
    go_ret
    exact ⟨by rw [HF.out]; rfl, HB.out⟩
end Go.Proofs.Ybulkadlc
