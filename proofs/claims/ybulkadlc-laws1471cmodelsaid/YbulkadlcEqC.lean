import Derived.Test.YbulkadlcIds
import Derived.Laws.StructEq
namespace Go.Proofs.Ybulkadlc
open Go.RowKit Go.QuietTail
set_option linter.unusedVariables false
set_option linter.unusedSimpArgs false

theorem size5 (w : World) : (Go.sizeOf 5).run Yba.prog w = .ok 1 w := by
  have h : (Yba.prog.info? 5).map (fun i => (i.zero, i.size, i.bytes)) = some (some (.int .u8 0), 1, 1) := by kernel_rfl
  obtain ⟨i0, hi0, hz0, hz1, hz2⟩ := info_parts h
  simp [sizeOf, typeInfo, hi0, hz1]
theorem part5 (a : List Int) (ha : a.length = 16) (i : Nat) (hi : i < 16) (w : World) : (part 5 (cellsId a).toArray (i * 1)).run Yba.prog w = .ok (.int .u8 (a.getD i 0)) w := by
  have h1 : (isAgg 5).run Yba.prog w = .ok false w := by simp [isAgg, run_underlying Yba.underlying5]
  have h2 : (cellsId a)[i]? = some (.int .u8 (a.getD i 0)) := by simp [cellsId, List.getD_eq_getElem?_getD, show i < a.length by omega]
  unfold part
  simp [h1, h2]
theorem run_equal_id (a b : List Int) (ha : a.length = 16) (hb : b.length = 16) (d : Nat) (w : World) : (Op.equalIn (d + 2) 23 (.agg (cellsId a).toArray) (.agg (cellsId b).toArray)).run Yba.prog w = .ok (decide (a = b)) w := by
  have key : ∀ (l : List Nat), (∀ i ∈ l, i < 16) → ∀ w, (forIn (m := Sem) l ((none, ()) : Option Bool × Unit) (fun i r => do
      if (!(← Op.equalIn (d + 1) 5 (← part 5 (cellsId a).toArray (i * 1)) (← part 5 (cellsId b).toArray (i * 1)))) = true then pure (ForInStep.done (some false, ())) else pure (ForInStep.yield (none, ())))).run Yba.prog w =
      .ok (if l.all (fun i => a.getD i 0 == b.getD i 0) then (none, ()) else (some false, ())) w := by
    intro l
    induction l with
    | nil => intro _ w; simp
    | cons i l ih =>
      intro hl w
      have hi := hl i (by simp)
      simp only [List.forIn_cons, Sem.run_bind, part5 a ha i hi, part5 b hb i hi, Result.andThen_ok, run_equalIn_int w d 5 .u8 .u8 _ _ Yba.underlying5]
      cases hc : (a.getD i 0 == b.getD i 0) with
      | true =>
        simp only [Bool.not_true, Bool.false_eq_true, if_false, Sem.run_pure, Sem.run_bind, Result.andThen_ok, List.all_cons, hc, Bool.true_and]
        exact ih (fun j hj => hl j (by simp [hj])) w
      | false => simp only [Bool.not_false, if_true, Sem.run_pure, Sem.run_bind, Result.andThen_ok, List.all_cons, hc, Bool.false_and, Bool.false_eq_true, if_false]
  have k0 := key (List.range' 0 16) (fun i hi => by simp at hi; omega) w
  have hall : (List.range' 0 16).all (fun i => a.getD i 0 == b.getD i 0) = decide (a = b) := by
    rw [Bool.eq_iff_iff, List.all_eq_true, decide_eq_true_iff]
    constructor
    · intro h
      refine List.ext_getElem? fun i => ?_
      by_cases hi : i < 16
      · have := h i (by simp; omega)
        rw [beq_iff_eq, List.getD_eq_getElem?_getD, List.getD_eq_getElem?_getD, List.getElem?_eq_getElem (show i < a.length by omega), List.getElem?_eq_getElem (show i < b.length by omega)] at this
        rw [List.getElem?_eq_getElem (show i < a.length by omega), List.getElem?_eq_getElem (show i < b.length by omega)]
        exact congrArg some this
      · rw [List.getElem?_eq_none (by omega), List.getElem?_eq_none (by omega)]
    · rintro rfl i _
      simp
  rw [hall] at k0
  unfold Op.equalIn
  simp only [Sem.run_bind, run_underlying Yba.underlying23, Result.andThen_ok, size5, Std.Legacy.Range.forIn_eq_forIn_range']
  have hsz : (List.range' 0 (Std.Legacy.Range.size [:16])) = List.range' 0 16 := rfl
  rw [hsz, k0]
  by_cases h : a = b
  · simp [h, Result.andThen]
  · simp [h, Result.andThen]

/-- What the walk asks of '==' and '!=' on two IDs. -/
theorem run_eql_id (a b : List Int) (ha : a.length = 16) (hb : b.length = 16) (w : World) : (Op.equalIn 10000 23 (.agg (cellsId a).toArray) (.agg (cellsId b).toArray)).run Yba.prog w = .ok (decide (a = b)) w := run_equal_id a b ha hb 9998 w
theorem noGuard23 : Yba.prog.eqGuardType Yba.prog.depth 23 = false := by kernel_rfl

/-! Index, Contains -/
def idx (ss : List (List Int)) (d : List Int) : Option Nat := ss.findIdx? (fun x => x == d)
set_option maxHeartbeats 1000000 in
theorem index_some (g c : Nat) (B : Nat) (ss : List (List Int)) (d : List Int) (hd : IdOk d) (hok : IsOk ss) (hl : ss.length ≤ 4096) (w : World) (hI : Ids w B (.slice (some ⟨g, 0, none⟩) ss.length c) ss) :
    Calls Yba.prog 46 #[.slice (some ⟨g, 0, none⟩) ss.length c, idv d] w fun e w' => (∃ i : Int, e = .returned (.int .i64 i) ∧ (0 ≤ i ↔ d ∈ ss)) ∧ Below w.heap.size w w' := by
  obtain ⟨n, hn⟩ : ∃ n, n = ss.length := ⟨_, rfl⟩
  have HN : Hid (n = ss.length) := hn
  rw [← hn] at hI hl ⊢
  clear hn
  have HI : Hid (Ids w B (.slice (some ⟨g, 0, none⟩) n c) ss) := hI
  have ng := noGuard23
  clear hI
  unfold idv
  have HB0 : Hid (Below w.heap.size w (w.alloc (.cells (cellsId d).toArray 23))) := (Below.refl _ w).alloc (Nat.le_refl _) _
  have HD0 : Hid (Blk (w.alloc (.cells (cellsId d).toArray 23)) w.heap.size d) := Blk.new w d
  go_enter Yba.func46, Yba.ntmps46
  go_wp2
  go_loopw [8] (fun u wr => ∃ k : Nat, u = .int .i64 k ∧ k ≤ n ∧ Hid (Blk wr w.heap.size d ∧ Below w.heap.size w wr ∧ ∀ (j : Nat) x, ss[j]? = some x → j < k → x ≠ d)) (fun u wr => (n - intOf u).toNat)
  case atStart => exact ⟨0, rfl, Nat.zero_le _, HD0.out, HB0.out, fun j x _ h => absurd h (Nat.not_lt_zero _)⟩
  case round =>
    obtain ⟨k, rfl, hkn, HH⟩ := hrel
    by_cases hlt : k < n
    · have hlt' : (k : Int) < (n : Int) := by omega
      obtain ⟨x, hx⟩ : ∃ x, ss[k]? = some x := ⟨_, List.getElem?_eq_getElem (by have := HN.out; omega)⟩
      have hxo := hok.at hx
      have HX : Hid (ss[k]? = some x) := hx
      have H1 : Hid (∀ w', (∃ m, w' = wr.drewN m) → w'.rangeAt w.heap.size 0 (cellsId d)) := by rintro w' ⟨m, rfl⟩; exact HH.out.1.range
      have H2 : Hid (∀ w', (∃ m, w' = wr.drewN m) → w'.rangeAt g (k * 16) (cellsId x)) := by rintro w' ⟨m, rfl⟩; exact (HI.out.later HH.out.2.1).range hok hx
      have eq1 := fun w => run_eql_id d x hd.1 hxo.1 w
      clear hx
      by_cases hdx : d = x
      · have eq1 : ∀ w, (Op.equalIn 10000 23 (.agg (cellsId d).toArray) (.agg (cellsId x).toArray)).run Yba.prog w = .ok true w := fun w => by rw [run_eql_id d x hd.1 hxo.1 w, decide_eq_true hdx]
        have HDX : Hid (d = x) := hdx
        clear hdx
        go_wp2
        refine wp_region_quiet_lit (by kernel_rfl) (by kernel_rfl) ?_
        refine qload_id rfl (.tmp 3) rfl _ _ rfl d hd.1 H1.out ?_
        simp only [Act.put, List.setIfInBounds_toArray, List.set_cons_succ, List.set_cons_zero]
        iterate 3 (go_big_quiet_step (fail))
        refine qload_id rfl (.tmp 14) rfl _ _ rfl x hxo.1 H2.out ?_
        simp only [Act.put, List.setIfInBounds_toArray, List.set_cons_succ, List.set_cons_zero]
        go_big_quiet_step (fail)
        refine wpQuiet_nil ?_
        intro w1 hw1
        obtain ⟨nq, rfl⟩ := hw1
        go_wp2
        go_ret
        refine ⟨⟨(k : Int), rfl, fun _ => ?_, fun _ => by omega⟩, below_drewN HH.out.2.1 _⟩
        rw [HDX.out]
        exact List.mem_of_getElem? HX.out
      · have eq1 : ∀ w, (Op.equalIn 10000 23 (.agg (cellsId d).toArray) (.agg (cellsId x).toArray)).run Yba.prog w = .ok false w := fun w => by rw [run_eql_id d x hd.1 hxo.1 w, decide_eq_false hdx]
        have HDX : Hid (¬ d = x) := hdx
        clear hdx
        go_wp2
        refine wp_region_quiet_lit (by kernel_rfl) (by kernel_rfl) ?_
        refine qload_id rfl (.tmp 3) rfl _ _ rfl d hd.1 H1.out ?_
        simp only [Act.put, List.setIfInBounds_toArray, List.set_cons_succ, List.set_cons_zero]
        iterate 3 (go_big_quiet_step (fail))
        refine qload_id rfl (.tmp 14) rfl _ _ rfl x hxo.1 H2.out ?_
        simp only [Act.put, List.setIfInBounds_toArray, List.set_cons_succ, List.set_cons_zero]
        go_big_quiet_step (fail)
        refine wpQuiet_nil ?_
        intro w1 hw1
        obtain ⟨nq, rfl⟩ := hw1
        go_wp2
        go_roundw
        case rel =>
          refine ⟨k + 1, by simp, by omega, HH.out.1, below_drewN HH.out.2.1 _, fun j y hj hjk => ?_⟩
          by_cases e : j = k
          · subst e
            have := HX.out
            rw [this] at hj
            cases hj
            exact fun e => HDX.out e.symm
          · exact HH.out.2.2 j y hj (by omega)
        case measure => simp [intOf]; omega
    · have hlt' : ¬ (k : Int) < (n : Int) := by omega
      go_wp2
      go_ret
      refine ⟨⟨(-1 : Int), rfl, fun h => absurd h (by decide), fun h => ?_⟩, HH.out.2.1⟩
      obtain ⟨j, hj⟩ := List.getElem?_of_mem h
      have hjl := (List.getElem?_eq_some_iff.1 hj).1
      exact absurd rfl (HH.out.2.2 j d hj (by have := HN.out; omega))
set_option maxHeartbeats 1000000 in
theorem index_nil (d : List Int) (w : World) : Calls Yba.prog 46 #[.slice none 0 0, idv d] w fun e w' => (∃ i : Int, e = .returned (.int .i64 i) ∧ (0 ≤ i ↔ d ∈ ([] : List (List Int)))) ∧ Below w.heap.size w w' := by
  have HB0 : Hid (Below w.heap.size w (w.alloc (.cells (cellsId d).toArray 23))) := (Below.refl _ w).alloc (Nat.le_refl _) _
  unfold idv
  go_enter Yba.func46, Yba.ntmps46
  go_wp2
  go_loopw [8] (fun u wr => u = .int .i64 0 ∧ Hid (Below w.heap.size w wr)) (fun u wr => 0)
  case atStart => exact ⟨rfl, HB0.out⟩
  case round =>
    obtain ⟨rfl, HH⟩ := hrel
    go_wp2
    go_ret
    exact ⟨⟨(-1 : Int), rfl, fun h => absurd h (by decide), fun h => by simp at h⟩, HH.out⟩
theorem contains_any (B : Nat) (v : Value) (ss : List (List Int)) (d : List Int) (hd : IdOk d) (hok : IsOk ss) (hl : ss.length ≤ 4096) (w : World) (hI : Ids w B v ss) :
    Calls Yba.prog 42 #[v, idv d] w fun e w' => e = .returned (.bool (decide (d ∈ ss))) ∧ Below w.heap.size w w' := by
  have H46 : Hid (∀ W, Below w.heap.size w W → Calls Yba.prog 46 #[v, .agg (cellsId d).toArray] W fun e w' => (∃ i : Int, e = .returned (.int .i64 i) ∧ (0 ≤ i ↔ d ∈ ss)) ∧ Below W.heap.size W w') := fun W hW => by
    rcases (hI.later hW).form with ⟨rfl, rfl⟩ | ⟨g, c, rfl, _⟩
    · exact index_nil d W
    · exact index_some g c B ss d hd hok hl W (hI.later hW)
  have HB0 : Hid (Below w.heap.size w (w.alloc (.cells (cellsId d).toArray 23))) := (Below.refl _ w).alloc (Nat.le_refl _) _
  have HD0 : Hid (Blk (w.alloc (.cells (cellsId d).toArray 23)) w.heap.size d) := Blk.new w d
  unfold idv
  clear hI
  go_enter Yba.func42, Yba.ntmps42
  go_wp2_with (first | (refine wpList_load_id rfl (.tmp 3) rfl _ rfl d hd.1 HD0.out ?_) | (go_at_call 46; refine (H46.out _ HB0.out).mono ?_; rintro e w1 ⟨⟨i, rfl, hi⟩, hb1⟩; have HI1 : Hid (0 ≤ i ↔ d ∈ ss) := hi; clear hi))
  go_ret
  refine ⟨?_, HB0.out.trans (hb1.mono HB0.out.size)⟩
  have e : decide (0 ≤ i) = decide (d ∈ ss) := by rw [decide_eq_decide]; exact HI1.out
  rw [← e]
  rfl
end Go.Proofs.Ybulkadlc
