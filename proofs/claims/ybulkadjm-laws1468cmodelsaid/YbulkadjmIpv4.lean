/- ipv4Bytes: what the call computes. -/
import Derived.Test.YbulkadjmRows
import Derived.WalkKit
import Derived.ProofKit
import Derived.LoopN
namespace Go.Proofs.Ybulkadjm
open Go.RowKit

def at4 (b i : Int) : Int := if b ≤ 8 ∧ 8 ≤ b + i then b + i + 1 else b + i

set_option maxHeartbeats 400000 in
theorem ipv4_any (a : Int) (w : World) (h1 : -9223372036854775808 ≤ a) (h2 : a ≤ 9223372036854775807) :
    Calls Yba.prog 5 #[.int .i64 a] w fun e w' => e = .returned (.agg #[.int .i64 (at4 (a.tdiv 8) 0), .int .i64 (at4 (a.tdiv 8) 1), .int .i64 (at4 (a.tdiv 8) 2), .int .i64 (at4 (a.tdiv 8) 3)]) ∧ Grown w w' := by
  have b1 : -1152921504606846976 ≤ a.tdiv 8 := by
    have := Int.tdiv_le_tdiv (c := 8) (by omega) h1
    simpa using this
  have b2 : a.tdiv 8 ≤ 1152921504606846975 := by
    have := Int.tdiv_le_tdiv (c := 8) (by omega) h2
    simpa using this
  go_enter Yba.func5, Yba.ntmps5
  go_wp2
  refine wp_loop_rounds 5 ?_
  (repeat any_goals (rw [rounds_succ]; go_wp2))
  all_goals
    refine bodyPost_ret (by simp [results, Yba.results5, go_sem]; try rfl) rfl ?_
    refine ⟨?_, by repeat (first | exact Grown.refl _ | apply Grown.drew | apply Grown.alloc | (refine Grown.setCell ?_ (by simp) _))⟩
    simp only [beq_iff_eq, beq_eq_false_iff_ne, ne_eq] at *
    simp only [at4]
    congr <;> (split <;> omega)
end Go.Proofs.Ybulkadjm
