import Derived.Test.YbulkadlcEqC
import Derived.Test.YbulkadlcIn
namespace Go.Proofs.Ybulkadlc
open Go.RowKit Go.QuietTail
set_option linter.unusedVariables false
set_option linter.unusedSimpArgs false

/-- A slice of IDs, to be read. -/
def IdsR (w : World) (v : Value) (ss : List (List Int)) : Prop := ∃ p c, v = .slice p ss.length c ∧ (p = none → ss = [] ∧ c = 0) ∧ (0 < ss.length → ∃ b o, p = some ⟨b, o, none⟩ ∧ b < w.heap.size ∧ ∀ j x, ss[j]? = some x → w.rangeAt b (o + j * 16) (cellsId x))
theorem IdsR.later {w w' : World} {v : Value} {ss : List (List Int)} (h : IdsR w v ss) (hb : Below w.heap.size w w') : IdsR w' v ss := by
  obtain ⟨p, c, h1, h2, h3⟩ := h
  refine ⟨p, c, h1, h2, fun h0 => ?_⟩
  obtain ⟨b, o, e, hlt, hr⟩ := h3 h0
  refine ⟨b, o, e, Nat.lt_of_lt_of_le hlt hb.size, fun j x hj t v ht => ?_⟩
  rw [hb.cell (p := ⟨b, o + j * 16 + t, none⟩) hlt]
  exact hr j x hj t v ht
theorem IdsR.same {w w' : World} {v : Value} {ss : List (List Int)} (h : IdsR w v ss) {row : Option Nat} (hg : w.grownBy w' row) (hne : ∀ b o n c, v = .slice (some ⟨b, o, none⟩) n c → 0 < n → some b ≠ row) : IdsR w' v ss := by
  obtain ⟨p, c, h1, h2, h3⟩ := h
  refine ⟨p, c, h1, h2, fun h0 => ?_⟩
  obtain ⟨b, o, e, hlt, hr⟩ := h3 h0
  refine ⟨b, o, e, Nat.lt_of_lt_of_le hlt hg.size, fun j x hj t u ht => ?_⟩
  rw [World.cell?_of_block (w := w) (hg.block b hlt (hne b o _ c (by rw [h1, e]) h0))]
  exact hr j x hj t u ht
theorem Ids.r {w : World} {B : Nat} {v : Value} {ss : List (List Int)} (h : Ids w B v ss) (hok : IsOk ss) : IdsR w v ss := by
  rcases h.form with ⟨rfl, rfl⟩ | ⟨g, c, rfl, _, _, hg, _⟩
  · exact ⟨none, 0, rfl, fun _ => ⟨rfl, rfl⟩, fun h => by simp at h⟩
  · exact ⟨_, c, rfl, (fun h => by cases h), fun _ => ⟨g, 0, rfl, hg, fun j x hj => by rw [Nat.zero_add]; exact h.range hok hj⟩⟩
theorem IdsR.nil (w : World) : IdsR w (.slice none 0 0) [] := ⟨none, 0, rfl, fun _ => ⟨rfl, rfl⟩, fun h => by simp at h⟩
theorem IdsR.clone {w : World} {v : Value} {ss : List (List Int)} (h : IdsR w v ss) (hok : IsOk ss) (hl : ss.length ≤ 4096) : Calls Yba.prog 6 #[v] w fun e w' => ∃ v, e = .returned v ∧ (Ids w' w.heap.size v ss ∧ Below w.heap.size w w') := by
  obtain ⟨p, c, rfl, h2, h3⟩ := h
  refine clone_any p ss.length c ss w hok rfl hl (fun e => (h2 e).2) ⟨fun e => (h2 e).1, fun ad had j u hj => ?_⟩
  have hjl := (List.getElem?_eq_some_iff.1 hj).1
  rw [flatI_len hok] at hjl
  obtain ⟨b, o, e, hlt, hr⟩ := h3 (by omega)
  rw [e] at had
  cases had
  have ej : j = j / 16 * 16 + j % 16 := by omega
  have hx : ss[j / 16]? = some ss[j / 16] := List.getElem?_eq_getElem (by omega)
  rw [Addr.add_mid]
  rw [ej, flatI_at hok hx (by omega)] at hj
  have := hr (j / 16) _ hx (j % 16) u hj
  rw [ej, ← Nat.add_assoc]
  exact this

set_option maxHeartbeats 2000000 in
theorem equal_any (v1 v2 : Value) (s1 s2 : List (List Int)) (o1 : IsOk s1) (o2 : IsOk s2) (l1 : s1.length ≤ 4096) (l2 : s2.length ≤ 4096) (w : World) (h1 : IdsR w v1 s1) (h2 : IdsR w v2 s2) :
    Calls Yba.prog 16 #[v1, v2] w fun e w' => e = .returned (.bool (decide (s1 = s2))) ∧ Below w.heap.size w w' := by
  obtain ⟨p, c, rfl, _, h13⟩ := h1
  obtain ⟨q, d, rfl, _, h23⟩ := h2
  by_cases hne : s1.length = s2.length
  · obtain ⟨n, hn⟩ : ∃ n, n = s1.length := ⟨_, rfl⟩
    have HN : Hid (n = s1.length ∧ n = s2.length) := ⟨hn, hn.trans hne⟩
    have ng := noGuard23
    rw [← hne] at h23 ⊢
    rw [← hn] at h13 h23 l1 ⊢
    clear hne hn l2
    go_enter Yba.func16, Yba.ntmps16
    go_wp2
    go_loopw [13] (fun u wr => ∃ k : Nat, u = .int .i64 k ∧ k ≤ n ∧ Hid (Below w.heap.size w wr ∧ ∀ j, j < k → s1[j]? = s2[j]?)) (fun u wr => (n - intOf u).toNat)
    case atStart => exact ⟨0, rfl, Nat.zero_le _, Below.refl _ _, fun j h => absurd h (Nat.not_lt_zero _)⟩
    case round =>
      obtain ⟨k, rfl, hkn, HH⟩ := hrel
      by_cases hlt : k < n
      · have hlt' : (k : Int) < (n : Int) := by omega
        obtain ⟨x, hx⟩ : ∃ x, s1[k]? = some x := ⟨_, List.getElem?_eq_getElem (by have := HN.out; omega)⟩
        obtain ⟨y, hy⟩ : ∃ y, s2[k]? = some y := ⟨_, List.getElem?_eq_getElem (by have := HN.out; omega)⟩
        have hxo := o1.at hx
        have hyo := o2.at hy
        obtain ⟨b1, f1, e1, t1, r1⟩ := h13 (by omega)
        obtain ⟨b2, f2, e2, t2, r2⟩ := h23 (by omega)
        subst e1
        subst e2
        have H1 : Hid (∀ w', (∃ m, w' = wr.drewN m) → w'.rangeAt b1 (f1 + k * 16) (cellsId x)) := by
          rintro w' ⟨m, rfl⟩ t u ht
          have := r1 k x hx t u ht
          rw [(below_drewN HH.out.1 m).cell (p := ⟨b1, f1 + k * 16 + t, none⟩) t1]
          exact this
        have H2 : Hid (∀ w', (∃ m, w' = wr.drewN m) → w'.rangeAt b2 (f2 + k * 16) (cellsId y)) := by
          rintro w' ⟨m, rfl⟩ t u ht
          have := r2 k y hy t u ht
          rw [(below_drewN HH.out.1 m).cell (p := ⟨b2, f2 + k * 16 + t, none⟩) t2]
          exact this
        have HX : Hid (s1[k]? = some x ∧ s2[k]? = some y) := ⟨hx, hy⟩
        clear hx hy r1 r2 h13 h23
        by_cases hdx : x = y
        · have eq1 : ∀ w, (Op.equalIn 10000 23 (.agg (cellsId x).toArray) (.agg (cellsId y).toArray)).run Yba.prog w = .ok true w := fun w => by rw [run_eql_id x y hxo.1 hyo.1 w, decide_eq_true hdx]
          have HDX : Hid (x = y) := hdx
          clear hdx
          go_wp2
          refine wp_region_quiet_lit (by kernel_rfl) (by kernel_rfl) ?_
          iterate 3 (go_big_quiet_step (fail))
          refine qload_id rfl (.tmp 18) rfl _ _ rfl x hxo.1 H1.out ?_
          simp only [Act.put, List.setIfInBounds_toArray, List.set_cons_succ, List.set_cons_zero]
          iterate 3 (go_big_quiet_step (fail))
          refine qload_id rfl (.tmp 22) rfl _ _ rfl y hyo.1 H2.out ?_
          simp only [Act.put, List.setIfInBounds_toArray, List.set_cons_succ, List.set_cons_zero]
          go_big_quiet_step (fail)
          refine wpQuiet_nil ?_
          intro w1 hw1
          obtain ⟨nq, rfl⟩ := hw1
          go_wp2
          go_roundw
          case rel =>
            refine ⟨k + 1, by simp, by omega, below_drewN HH.out.1 _, fun j hj => ?_⟩
            by_cases e : j = k
            · subst e; rw [HX.out.1, HX.out.2, HDX.out]
            · exact HH.out.2 j (by omega)
          case measure => simp [intOf]; omega
        · have eq1 : ∀ w, (Op.equalIn 10000 23 (.agg (cellsId x).toArray) (.agg (cellsId y).toArray)).run Yba.prog w = .ok false w := fun w => by rw [run_eql_id x y hxo.1 hyo.1 w, decide_eq_false hdx]
          have HDX : Hid (¬ x = y) := hdx
          clear hdx
          go_wp2
          refine wp_region_quiet_lit (by kernel_rfl) (by kernel_rfl) ?_
          iterate 3 (go_big_quiet_step (fail))
          refine qload_id rfl (.tmp 18) rfl _ _ rfl x hxo.1 H1.out ?_
          simp only [Act.put, List.setIfInBounds_toArray, List.set_cons_succ, List.set_cons_zero]
          iterate 3 (go_big_quiet_step (fail))
          refine qload_id rfl (.tmp 22) rfl _ _ rfl y hyo.1 H2.out ?_
          simp only [Act.put, List.setIfInBounds_toArray, List.set_cons_succ, List.set_cons_zero]
          go_big_quiet_step (fail)
          refine wpQuiet_nil ?_
          intro w1 hw1
          obtain ⟨nq, rfl⟩ := hw1
          go_wp2
          go_ret
          have e : decide (s1 = s2) = false := by
            rw [decide_eq_false]
            intro e
            have h1 := HX.out.1
            rw [e, HX.out.2] at h1
            exact HDX.out (Option.some.inj h1).symm
          exact ⟨by rw [e]; rfl, below_drewN HH.out.1 _⟩
      · have hlt' : ¬ (k : Int) < (n : Int) := by omega
        clear h13 h23
        go_wp2
        go_ret
        have e : decide (s1 = s2) = true := by
          rw [decide_eq_true]
          refine List.ext_getElem? fun j => ?_
          by_cases hj : j < n
          · exact HH.out.2 j (by omega)
          · rw [List.getElem?_eq_none (by have := HN.out; omega), List.getElem?_eq_none (by have := HN.out; omega)]
        exact ⟨by rw [e]; rfl, HH.out.1⟩
  · have hne' : ¬ (s1.length : Int) = (s2.length : Int) := by omega
    have e : decide (s1 = s2) = false := by
      rw [decide_eq_false]
      rintro rfl
      exact hne rfl
    rw [e]
    clear h13 h23 e
    generalize s1.length = n1 at *
    generalize s2.length = n2 at *
    go_enter Yba.func16, Yba.ntmps16
    go_wp2
    go_ret
    exact ⟨rfl, Below.refl _ _⟩
end Go.Proofs.Ybulkadlc
