/- The proof of the statement (frame by proof-skeleton.mjs, the walk by hand). -/
import Derived.Test.YbulkadjmRows
import Derived.WalkKit
import Derived.ProofKit
import Derived.OpenShut
import Derived.ShutString
import Derived.LoopN
import Derived.Test.YbulkadjmIpv4
namespace Go.Proofs.Ybulkadjm.lawS1468CModel
open Go.ChangeShapes Go.WideShapes Go.ChangeAt Go.RowKit
open Go.ChangeMaps (open_string shut_string)
set_option linter.unusedVariables false      -- a walk need not use every 'w<i>' (that an integer argument fits its kind)

theorem own : ownKnob Yba.prog.godebug = none := by kernel_rfl

set_option maxHeartbeats 1000000 in
theorem model_walk (a : Int) (w : World) (h1 : -9223372036854775808 ≤ a) (h2 : a ≤ 9223372036854775807) :
    Calls Yba.prog 3 #[.int .i64 a] w fun e w' => e = .returned (.bool true) ∧ Grown w w' := by
  have b1 : -1152921504606846976 ≤ a.tdiv 8 := by
    have := Int.tdiv_le_tdiv (c := 8) (by omega) h1
    simpa using this
  have b2 : a.tdiv 8 ≤ 1152921504606846975 := by
    have := Int.tdiv_le_tdiv (c := 8) (by omega) h2
    simpa using this
  have hcase : 9 ≤ a.tdiv 8 ∨ a.tdiv 8 = 8 ∨ a.tdiv 8 = 7 ∨ a.tdiv 8 = 6 ∨ a.tdiv 8 = 5 ∨ a.tdiv 8 ≤ 4 := by omega
  rcases hcase with h | h | h | h | h | h
  · have e0 : at4 (a.tdiv 8) 0 = a.tdiv 8 := by unfold at4; split <;> omega
    have e1 : at4 (a.tdiv 8) 1 = a.tdiv 8 + 1 := by unfold at4; split <;> omega
    have e2 : at4 (a.tdiv 8) 2 = a.tdiv 8 + 2 := by unfold at4; split <;> omega
    have e3 : at4 (a.tdiv 8) 3 = a.tdiv 8 + 3 := by unfold at4; split <;> omega
    go_enter Yba.func3, Yba.ntmps3
    go_wp2_with (go_at_call 5; refine (ipv4_any a _ h1 h2).mono ?_; rintro e w' ⟨rfl, hg⟩)
    refine wp_loop_rounds 5 ?_
    (repeat any_goals (rw [rounds_succ]; go_wp2))
    go_ret
    exact ⟨rfl, hg.alloc _ _⟩
  · have e0 : at4 8 0 = 9 := by decide
    have e1 : at4 8 1 = 10 := by decide
    have e2 : at4 8 2 = 11 := by decide
    have e3 : at4 8 3 = 12 := by decide
    go_enter Yba.func3, Yba.ntmps3
    go_wp2_with (go_at_call 5; refine (ipv4_any a _ h1 h2).mono ?_; rintro e w' ⟨rfl, hg⟩)
    refine wp_loop_rounds 5 ?_
    (repeat any_goals (rw [rounds_succ]; go_wp2))
    go_ret
    exact ⟨rfl, hg.alloc _ _⟩
  · have e0 : at4 7 0 = 7 := by decide
    have e1 : at4 7 1 = 9 := by decide
    have e2 : at4 7 2 = 10 := by decide
    have e3 : at4 7 3 = 11 := by decide
    go_enter Yba.func3, Yba.ntmps3
    go_wp2_with (go_at_call 5; refine (ipv4_any a _ h1 h2).mono ?_; rintro e w' ⟨rfl, hg⟩)
    refine wp_loop_rounds 5 ?_
    (repeat any_goals (rw [rounds_succ]; go_wp2))
    go_ret
    exact ⟨rfl, hg.alloc _ _⟩
  · have e0 : at4 6 0 = 6 := by decide
    have e1 : at4 6 1 = 7 := by decide
    have e2 : at4 6 2 = 9 := by decide
    have e3 : at4 6 3 = 10 := by decide
    go_enter Yba.func3, Yba.ntmps3
    go_wp2_with (go_at_call 5; refine (ipv4_any a _ h1 h2).mono ?_; rintro e w' ⟨rfl, hg⟩)
    refine wp_loop_rounds 5 ?_
    (repeat any_goals (rw [rounds_succ]; go_wp2))
    go_ret
    exact ⟨rfl, hg.alloc _ _⟩
  · have e0 : at4 5 0 = 5 := by decide
    have e1 : at4 5 1 = 6 := by decide
    have e2 : at4 5 2 = 7 := by decide
    have e3 : at4 5 3 = 9 := by decide
    go_enter Yba.func3, Yba.ntmps3
    go_wp2_with (go_at_call 5; refine (ipv4_any a _ h1 h2).mono ?_; rintro e w' ⟨rfl, hg⟩)
    refine wp_loop_rounds 5 ?_
    (repeat any_goals (rw [rounds_succ]; go_wp2))
    go_ret
    exact ⟨rfl, hg.alloc _ _⟩
  · have e0 : at4 (a.tdiv 8) 0 = a.tdiv 8 := by unfold at4; split <;> omega
    have e1 : at4 (a.tdiv 8) 1 = a.tdiv 8 + 1 := by unfold at4; split <;> omega
    have e2 : at4 (a.tdiv 8) 2 = a.tdiv 8 + 2 := by unfold at4; split <;> omega
    have e3 : at4 (a.tdiv 8) 3 = a.tdiv 8 + 3 := by unfold at4; split <;> omega
    go_enter Yba.func3, Yba.ntmps3
    go_wp2_with (go_at_call 5; refine (ipv4_any a _ h1 h2).mono ?_; rintro e w' ⟨rfl, hg⟩)
    refine wp_loop_rounds 5 ?_
    (repeat any_goals (rw [rounds_succ]; go_wp2))
    go_ret
    exact ⟨rfl, hg.alloc _ _⟩

theorem walk (a0 : Int) (w0 : (Lit.int .i64 a0).wf = true) (w : World) :
    Calls Yba.prog 3 #[.int .i64 a0] w fun e w' => e = .returned (.bool true) ∧ Grown w w' := by
  have hb := bounds_i64 w0
  exact model_walk a0 w hb.1 hb.2

/-! ### THE ROW's STEP: WRITTEN OUT: LEAVE IT -/
set_option maxRecDepth 100000 in
theorem lifted (os : Os) (started : os.Started) (H : Type) (enc : TypeId × Value → H) :
    ReturnsInHanded {} Yba.checked os 3 .any (Rows.lawS1468CModelSpec.pre6 enc Yba.prog Yba.f3 Rows.lawS1468CModelRow.domain false) (Rows.lawS1468CModelSpec.post enc Yba.prog Yba.f3 false true false false) := by
  refine returnsInHanded_of_change (C := Yba.checked) own started (by kernel_rfl) Yba.func3
    (ChangeSpec.witness6 (enc := enc) (C := Yba.checked) false ⟨#[], #[.int .i64 0], []⟩ 8 (by kernel_rfl) (by kernel_rfl) (by kernel_rfl) (by kernel_rfl)) ?_
  intro W base args ds gs before hval0 hW hcnd _
  have hval : ∀ (j : Nat) t v, Yba.f3.params[j]? = some t → args[j]? = some v → Value.okWide Yba.prog W .any base t v := hval0
  have hW' := hW
  obtain ⟨p, q, hA0, hV, rfl, hfz, hnd⟩ := hW
  have hA : DataW.TrodAll enc Yba.prog W 0 (fun _ => true) true Yba.f3.params.toList args.toList ds p := hA0
  rw [Yba.params3] at hA hval
  obtain ⟨v0, vs0, d0, ds0, p0, q0, hargs, rfl, rfl, h0, r0⟩ := trodAll_cons hA
  obtain ⟨rfl, rfl, rfl⟩ := trodAll_nil r0
  obtain rfl : args = #[v0] := by cases args; simp_all
  obtain ⟨rfl, rfl⟩ := trodVars_none hV
  obtain ⟨a0, rfl, rfl, rfl, w0⟩ := open_int Yba.underlying3 (hval 0 3 v0 rfl rfl) h0
  clear hA0 hval0
  simp only [List.append_nil] at hW'
  refine (walk a0 w0 W).mono fun e W' ⟨he, hg⟩ => ?_
  subst he
  exact ⟨_, rfl, post_of_same (pa := []) (pv := []) hW' (fun _ _ _ => (trodAll_cons_mk (shut_bool Yba.underlying4 _) trodAll_mk0)) (fun sp _ => (trodAll_cons_mk (shut_int Yba.underlying3 w0) trodAll_mk0)) (fun _ _ => rfl) rfl
    (hg.frame _) hg.2.1 (ok_one (by kernel_rfl) rfl (okWide_bool_mk Yba.underlying4 _))⟩

theorem over : Rows.lawS1468CModelRow.holds Yba.pinned (OpenSpec.ofChange Rows.lawS1468CModelSpec) :=
  OpenClaim.holds_of_wide 3 Yba.f3 rfl rfl rfl rfl rfl rfl rfl ⟨rfl, rfl, rfl, rfl, rfl⟩ rfl rfl rfl rfl rfl (by kernel_rfl) Yba.func3 (by kernel_rfl)
    (of_decide_eq_true (by kernel_rfl)) (by unfold Func.isWrapper; first | (rw [if_pos (by decide +kernel)]; kernel_rfl) | (rw [if_neg (by decide +kernel)]; exact ⟨rfl, rfl⟩))
    (fun os started H enc _ => lifted os started H enc)

/-- ████ THE STATEMENT ████ -/
theorem proved : Rows.LawS1468CModelSaid :=
  over
#print axioms proved
end Go.Proofs.Ybulkadjm.lawS1468CModel
