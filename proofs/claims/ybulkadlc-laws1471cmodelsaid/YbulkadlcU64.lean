import Derived.Test.YbulkadlcRows
import Derived.WalkKit
import Derived.WalkSpells
import Derived.WalkLawsBesides
import Derived.Deep.QuietTactic
import Derived.BigQuiet
import Derived.Lib.EndianBits
import Derived.Test.YbulkadlcQT
namespace Go.Proofs.Ybulkadlc
open Go.RowKit Go.QuietTail

def be8 (b : Nat → Int) : Int := b 7 + b 6 * 256 + b 5 * 65536 + b 4 * 16777216 + b 3 * 4294967296 + b 2 * 1099511627776 + b 1 * 281474976710656 + b 0 * 72057594037927936

set_option maxHeartbeats 1000000 in
theorem uint64_any (g o n c : Nat) (b : Nat → Int) (w : World) (hn : 8 ≤ n) (h : ∀ j, j < 8 → w.cell? ⟨g, o + j, none⟩ = some (.int .u8 (b j))) (hb : ∀ j, j < 8 → 0 ≤ b j ∧ b j ≤ 255) (hg : g < w.heap.size) :
    Calls Yba.prog 21 #[.agg #[], .slice (some ⟨g, o, none⟩) n c] w fun e w' => e = .returned (.int .u64 (be8 b)) ∧ Below w.heap.size w w' := by
  have h0 := h 0 (by omega)
  have h1 := h 1 (by omega)
  have h2 := h 2 (by omega)
  have h3 := h 3 (by omega)
  have h4 := h 4 (by omega)
  have h5 := h 5 (by omega)
  have h6 := h 6 (by omega)
  have h7 := h 7 (by omega)
  have k0 := hb 0 (by omega)
  have k1 := hb 1 (by omega)
  have k2 := hb 2 (by omega)
  have k3 := hb 3 (by omega)
  have k4 := hb 4 (by omega)
  have k5 := hb 5 (by omega)
  have k6 := hb 6 (by omega)
  have k7 := hb 7 (by omega)
  unfold be8
  generalize b 0 = x0 at *
  generalize b 1 = x1 at *
  generalize b 2 = x2 at *
  generalize b 3 = x3 at *
  generalize b 4 = x4 at *
  generalize b 5 = x5 at *
  generalize b 6 = x6 at *
  generalize b 7 = x7 at *
  clear h hb
  rw [Nat.add_zero] at h0
  have m0 : 0 < n := by omega
  have m1 : (1 : Int) < (n : Int) := by omega
  have m2 : (2 : Int) < (n : Int) := by omega
  have m3 : (3 : Int) < (n : Int) := by omega
  have m4 : (4 : Int) < (n : Int) := by omega
  have m5 : (5 : Int) < (n : Int) := by omega
  have m6 : (6 : Int) < (n : Int) := by omega
  have m7 : (7 : Int) < (n : Int) := by omega
  obtain ⟨p0, q0⟩ := k0
  obtain ⟨p1, q1⟩ := k1
  obtain ⟨p2, q2⟩ := k2
  obtain ⟨p3, q3⟩ := k3
  obtain ⟨p4, q4⟩ := k4
  obtain ⟨p5, q5⟩ := k5
  obtain ⟨p6, q6⟩ := k6
  obtain ⟨p7, q7⟩ := k7
  go_enter Yba.func21, Yba.ntmps21
  go_wp2
  go_quiet (fail)
  go_wp2
  go_ret
  refine ⟨?_, below_drewN ((Below.refl _ w).alloc (Nat.le_refl _) _) _⟩
  simp only [Array.getD, List.size_toArray, List.length_cons, List.length_nil]
  simp (disch := omega) [u64_or8, u64_or16, u64_or24, u64_or32, u64_or40, u64_or48, u64_or56]
end Go.Proofs.Ybulkadlc
