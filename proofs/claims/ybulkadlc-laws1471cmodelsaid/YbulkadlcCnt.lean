import Derived.Test.YbulkadlcSetF
import Derived.Test.YbulkadlcIds
namespace Go.Proofs.Ybulkadlc
open Go.RowKit Go.QuietTail
set_option linter.unusedVariables false
set_option linter.unusedSimpArgs false

/-- How many fingers. -/
def fcount (self : List Int) (ss : List (List Int)) : Int := match ss.getLast? with | none => 16 | some d => if 16 ≤ fing self d then fing self d else 16
theorem fcount_bd (self : List Int) (ss : List (List Int)) : 16 ≤ fcount self ss ∧ fcount self ss ≤ 128 := by
  unfold fcount
  split
  · omega
  · split
    · have := fing_bd self ‹List Int›; omega
    · omega

theorem finger_at (W : World) (a b : List Int) (ha : IdOk a) (hb : IdOk b) (w : World) (hx : Below W.heap.size W w) :
    Calls Yba.prog 9 #[.agg (cellsId a).toArray, .agg (cellsId b).toArray] w fun e w' => e = .returned (.int .i64 (fing a b)) ∧ Below W.heap.size W w' := by
  refine (finger_any a b ha hb w).mono ?_
  rintro e w' ⟨rfl, hb'⟩
  exact ⟨rfl, hx.trans (hb'.mono hx.size)⟩

set_option maxHeartbeats 1000000 in
theorem fcount_any (T B : Nat) (self : List Int) (vp vs vf : Value) (ss : List (List Int)) (hs : IdOk self) (hok : IsOk ss) (hl : ss.length ≤ 1024) (w : World) (hTB : TBlk w T self vp vs vf) (hI : Ids w B vs ss) :
    Calls Yba.prog 10 #[.pointer (some ⟨T, 0, none⟩)] w fun e w' => e = .returned (.int .i64 (fcount self ss)) ∧ Below w.heap.size w w' := by
  have cS := hTB.cellS hs.1
  have hTlt := hTB.lt
  rcases hI.form with ⟨hv, hn⟩ | ⟨g, c, hv, hc1, hc2, hg, _⟩
  · subst hv
    subst hn
    go_enter Yba.func10, Yba.ntmps10
    go_wp2
    go_ret
    exact ⟨rfl, Below.refl _ _⟩
  · subst hv
    rcases List.eq_nil_or_concat ss with hn | ⟨s0, d, hsd⟩
    · subst hn
      go_enter Yba.func10, Yba.ntmps10
      go_wp2
      go_ret
      exact ⟨rfl, Below.refl _ _⟩
    · obtain ⟨n, hn⟩ : ∃ n, n = ss.length := ⟨_, rfl⟩
      have hn0 : 0 < n := by rw [hn, hsd]; simp
      have hd : ss[n - 1]? = some d := by rw [hn, hsd]; simp
      have hdo := hok.at hd
      have HR : Hid (∀ w', (∃ p : Later w, w' = p.w) → w'.rangeAt g ((n - 1) * 16) (cellsId d)) := by
        rintro w' ⟨p, rfl⟩
        exact (hI.later p.h).range hok hd
      have HS : Hid (∀ w', (∃ p : Later w, w' = p.w) → w'.rangeAt T 0 (cellsId self)) := by
        rintro w' ⟨p, rfl⟩
        exact (hTB.later p.h).self
      have cL : ∀ p : Later w, p.w.cell? ⟨T, 17, none⟩ = some (.slice (some ⟨g, 0, none⟩) n c) := fun p => by rw [hn]; exact (hTB.later p.h).cellS hs.1
      have HF : Hid (fcount self ss = if 16 ≤ fing self d then fing self d else 16) := by
        show _ = _
        unfold fcount
        rw [hsd]
        simp
      rw [← hn] at cS hl hc1
      have hne : ¬ ((n : Int) = 0) := by omega
      have hne' : ((n : Int) == 0) = false := by simpa using hne
      clear hI hn hsd hd hTB
      go_enter Yba.func10, Yba.ntmps10
      go_wp2
      have hN : Nonempty (Later w) := ⟨⟨w, Below.refl _ _⟩⟩
      refine wp_region_later (by kernel_rfl) (by kernel_rfl) ?_
      iterate 3 (go_big_quiet_step (fail))
      refine qload_id rfl (.tmp 11) rfl _ _ rfl self hs.1 HS.out ?_
      simp only [Act.put, List.setIfInBounds_toArray, List.set_cons_succ, List.set_cons_zero]
      iterate 11 (go_big_quiet_step (fail))
      refine qload_id rfl (.tmp 23) rfl _ _ rfl d hdo.1 HR.out ?_
      simp only [Act.put, List.setIfInBounds_toArray, List.set_cons_succ, List.set_cons_zero]
      go_big_quiet_want
      go_big_quiet_op
      refine ⟨_, fun p => calls_later (finger_at w self d hs hdo _ p.h), ?_⟩
      go_big_quiet_on
      iterate 2 (go_big_quiet_step (fail))
      refine wpQuiet_nil ?_
      intro w1 hw1
      obtain ⟨⟨_, hb1⟩, rfl⟩ := hw1
      go_wp2
      · have e : (if 16 ≤ fing self d then fing self d else 16) = fing self d := by split <;> omega
        go_ret
        exact ⟨by rw [HF.out, e]; rfl, hb1⟩
      · have e : (if 16 ≤ fing self d then fing self d else 16) = 16 := by split <;> omega
        go_ret
        exact ⟨by rw [HF.out, e]; rfl, hb1⟩
end Go.Proofs.Ybulkadlc
