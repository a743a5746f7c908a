/- The proof of the statement (frame by proof-skeleton.mjs, the walk by hand). -/
import Derived.Test.YbulkadjmRows
import Derived.WalkKit
import Derived.ProofKit
import Derived.OpenShut
import Derived.ShutString
import Derived.LoopN
import Derived.Deep.QuietTactic
import Derived.BigQuiet
import Derived.Test.YbulkadjmIpv4
namespace Go.Proofs.Ybulkadjm.lawS1468CShape
open Go.ChangeShapes Go.WideShapes Go.ChangeAt Go.RowKit
open Go.ChangeMaps (open_string shut_string)
set_option linter.unusedVariables false      -- a walk need not use every 'w<i>' (that an integer argument fits its kind)

theorem own : ownKnob Yba.prog.godebug = none := by kernel_rfl

theorem at4_facts (q : Int) (h0 : 0 ≤ q) (h1 : q ≤ 12) : (at4 q 0 < 8 ∨ 8 < at4 q 0) ∧ (at4 q 1 < 8 ∨ 8 < at4 q 1) ∧ (at4 q 2 < 8 ∨ 8 < at4 q 2) ∧ (at4 q 3 < 8 ∨ 8 < at4 q 3)
    ∧ q ≤ at4 q 0 ∧ at4 q 0 < at4 q 1 ∧ at4 q 1 < at4 q 2 ∧ at4 q 2 < at4 q 3 ∧ at4 q 3 ≤ 15 ∧ (q < 8 → at4 q 0 ≤ q) := by
  unfold at4
  refine ⟨?_, ?_, ?_, ?_, ?_, ?_, ?_, ?_, ?_, ?_⟩ <;> (repeat' split) <;> omega

theorem ipv4_shape (a : Int) (w : World) (h1 : 0 ≤ a) (h2 : a ≤ 96) :
    Calls Yba.prog 5 #[.int .i64 a] w fun e w' => ∃ c0 c1 c2 c3 : Int, e = .returned (.agg #[.int .i64 c0, .int .i64 c1, .int .i64 c2, .int .i64 c3]) ∧ Grown w w' ∧ 
      (c0 < 8 ∨ 8 < c0) ∧ (c1 < 8 ∨ 8 < c1) ∧ (c2 < 8 ∨ 8 < c2) ∧ (c3 < 8 ∨ 8 < c3)
    ∧ a / 8 ≤ c0 ∧ c0 < c1 ∧ c1 < c2 ∧ c2 < c3 ∧ c3 ≤ 15 ∧ (a / 8 < 8 → c0 ≤ a / 8) := by
  have e8 : a.tdiv 8 = a / 8 := Int.tdiv_eq_ediv_of_nonneg h1
  have hf := at4_facts (a.tdiv 8) (by omega) (by omega)
  refine (ipv4_any a w (by omega) (by omega)).mono ?_
  rintro e w' ⟨rfl, hg⟩
  rw [e8] at hf ⊢
  exact ⟨_, _, _, _, rfl, hg, hf⟩

set_option maxHeartbeats 1000000 in
theorem shape_walk (n : Int) (w : World) (h1 : 0 ≤ n) (h2 : n ≤ 255) :
    Calls Yba.prog 4 #[.int .u8 n] w fun e w' => e = .returned (.bool true) ∧ Grown w w' := by
  have m0 : 0 ≤ n % 97 := by omega
  have m1 : n % 97 ≤ 96 := by omega
  go_enter Yba.func4, Yba.ntmps4
  go_wp2_with fail
  refine (ipv4_shape _ _ (by omega) (by omega)).mono ?_
  rintro e w' ⟨c0, c1, c2, c3, rfl, hg, f0, f1, f2, f3, f4, f5, f6, f7, f8, f9⟩
  have g0 : (c0 == 8) = false := by rw [beq_eq_false_iff_ne]; omega
  have g1 : (c1 == 8) = false := by rw [beq_eq_false_iff_ne]; omega
  have g2 : (c2 == 8) = false := by rw [beq_eq_false_iff_ne]; omega
  have g3 : (c3 == 8) = false := by rw [beq_eq_false_iff_ne]; omega
  have k0 : decide (c0 < n % 97 / 8) = false := by rw [decide_eq_false_iff_not]; omega
  have k1 : decide (c1 < n % 97 / 8) = false := by rw [decide_eq_false_iff_not]; omega
  have k2 : decide (c2 < n % 97 / 8) = false := by rw [decide_eq_false_iff_not]; omega
  have k3 : decide (c3 < n % 97 / 8) = false := by rw [decide_eq_false_iff_not]; omega
  have l0 : decide (15 < c0) = false := by rw [decide_eq_false_iff_not]; omega
  have l1 : decide (15 < c1) = false := by rw [decide_eq_false_iff_not]; omega
  have l2 : decide (15 < c2) = false := by rw [decide_eq_false_iff_not]; omega
  have l3 : decide (15 < c3) = false := by rw [decide_eq_false_iff_not]; omega
  have m1 : decide (c1 ≤ c0) = false := by rw [decide_eq_false_iff_not]; omega
  have m2 : decide (c2 ≤ c1) = false := by rw [decide_eq_false_iff_not]; omega
  have m3 : decide (c3 ≤ c2) = false := by rw [decide_eq_false_iff_not]; omega
  clear f0 f1 f2 f3 f5 f6 f7 f8
  go_wp2
  refine wp_loop_rounds 5 ?_
  rw [rounds_succ]; go_wp2
  go_quiet (fail)
  go_wp2
  rw [rounds_succ]; go_wp2
  go_quiet (fail)
  go_wp2
  rw [rounds_succ]; go_wp2
  go_quiet (fail)
  go_wp2
  rw [rounds_succ]; go_wp2
  go_quiet (fail)
  go_wp2
  rw [rounds_succ]; go_wp2
  all_goals go_ret
  all_goals
    refine ⟨rfl, ?_⟩
    exact hg.alloc _ _

theorem walk (a0 : Int) (w0 : (Lit.int .u8 a0).wf = true) (w : World) :
    Calls Yba.prog 4 #[.int .u8 a0] w fun e w' => e = .returned (.bool true) ∧ Grown w w' := by
  have hb := bounds_u8 w0
  exact shape_walk a0 w hb.1 hb.2

/-! ### THE ROW's STEP: WRITTEN OUT: LEAVE IT -/
set_option maxRecDepth 100000 in
theorem lifted (os : Os) (started : os.Started) (H : Type) (enc : TypeId × Value → H) :
    ReturnsInHanded {} Yba.checked os 4 .any (Rows.lawS1468CShapeSpec.pre6 enc Yba.prog Yba.f4 Rows.lawS1468CShapeRow.domain false) (Rows.lawS1468CShapeSpec.post enc Yba.prog Yba.f4 false true false false) := by
  refine returnsInHanded_of_change (C := Yba.checked) own started (by kernel_rfl) Yba.func4
    (ChangeSpec.witness6 (enc := enc) (C := Yba.checked) false ⟨#[], #[.int .u8 0], []⟩ 8 (by kernel_rfl) (by kernel_rfl) (by kernel_rfl) (by kernel_rfl)) ?_
  intro W base args ds gs before hval0 hW hcnd _
  have hval : ∀ (j : Nat) t v, Yba.f4.params[j]? = some t → args[j]? = some v → Value.okWide Yba.prog W .any base t v := hval0
  have hW' := hW
  obtain ⟨p, q, hA0, hV, rfl, hfz, hnd⟩ := hW
  have hA : DataW.TrodAll enc Yba.prog W 0 (fun _ => true) true Yba.f4.params.toList args.toList ds p := hA0
  rw [Yba.params4] at hA hval
  obtain ⟨v0, vs0, d0, ds0, p0, q0, hargs, rfl, rfl, h0, r0⟩ := trodAll_cons hA
  obtain ⟨rfl, rfl, rfl⟩ := trodAll_nil r0
  obtain rfl : args = #[v0] := by cases args; simp_all
  obtain ⟨rfl, rfl⟩ := trodVars_none hV
  obtain ⟨a0, rfl, rfl, rfl, w0⟩ := open_int Yba.underlying5 (hval 0 5 v0 rfl rfl) h0
  clear hA0 hval0
  simp only [List.append_nil] at hW'
  refine (walk a0 w0 W).mono fun e W' ⟨he, hg⟩ => ?_
  subst he
  exact ⟨_, rfl, post_of_same (pa := []) (pv := []) hW' (fun _ _ _ => (trodAll_cons_mk (shut_bool Yba.underlying4 _) trodAll_mk0)) (fun sp _ => (trodAll_cons_mk (shut_int Yba.underlying5 w0) trodAll_mk0)) (fun _ _ => rfl) rfl
    (hg.frame _) hg.2.1 (ok_one (by kernel_rfl) rfl (okWide_bool_mk Yba.underlying4 _))⟩

theorem over : Rows.lawS1468CShapeRow.holds Yba.pinned (OpenSpec.ofChange Rows.lawS1468CShapeSpec) :=
  OpenClaim.holds_of_wide 4 Yba.f4 rfl rfl rfl rfl rfl rfl rfl ⟨rfl, rfl, rfl, rfl, rfl⟩ rfl rfl rfl rfl rfl (by kernel_rfl) Yba.func4 (by kernel_rfl)
    (of_decide_eq_true (by kernel_rfl)) (by unfold Func.isWrapper; first | (rw [if_pos (by decide +kernel)]; kernel_rfl) | (rw [if_neg (by decide +kernel)]; exact ⟨rfl, rfl⟩))
    (fun os started H enc _ => lifted os started H enc)

/-- ████ THE STATEMENT ████ -/
theorem proved : Rows.LawS1468CShapeSaid :=
  over
#print axioms proved
end Go.Proofs.Ybulkadjm.lawS1468CShape
