import Derived.Test.YbulkadlcSet
namespace Go.Proofs.Ybulkadlc
open Go.RowKit Go.QuietTail
set_option linter.unusedVariables false
set_option linter.unusedSimpArgs false

theorem tab_ne {w : World} {T B : Nat} {self : List Int} {vp vs vx vf : Value} {l : List Fg} (hTB : TBlk w T self vp vs vx) (hT : Tab w B vf l) : vf.ownBlock ≠ some T := fun e => by
  rcases hT.2 with ⟨hv, _⟩ | ⟨g, cap, cur, hv, _, hg, _⟩
  · rw [hv] at e; cases e
  · rw [hv] at e
    obtain rfl : g = T := by simpa [Value.ownBlock] using e
    rw [show w.heap[g]? = _ from hTB] at hg
    simp at hg
theorem Tab.form {w : World} {B : Nat} {v : Value} {l : List Fg} (h : Tab w B v l) : ∃ p n c, v = .slice p n c := by
  rcases h.2 with ⟨hv, _⟩ | ⟨g, cap, cur, hv, _⟩
  · exact ⟨_, _, _, hv⟩
  · exact ⟨_, _, _, hv⟩
theorem Tab.set {w w' : World} {B g cap n : Nat} {l : List Fg} {cur : Array Value} (hok : FOk l) (k : Nat) (x : Fg) (id : List Int) (hx : l[k]? = some x) (hid : IdOk id) (hBg : B ≤ g) (hnc : l.length ≤ cap) (hcm : cap ≤ maxLen) (hcs : cur.size = cap * 17)
    (htk : cur.toList.take (l.length * 17) = flatF l) (hw : w'.heap[g]? = some (.cells (splice cur.toList (k * 17 + 1) (cellsId id)).toArray 65 (0, 0))) : Tab w' B (.slice (some ⟨g, 0, none⟩) l.length cap) (l.set k (x.1, id)) := by
  have hkl : k < l.length := (List.getElem?_eq_some_iff.1 hx).1
  have hxo := hok.at hx
  have hidl : (cellsId id).length = 16 := by simp [cellsId, hid.1]
  have hcl : cur.toList.length = cap * 17 := by simpa using hcs
  have hokt : FOk (l.take k) := fun y hy => hok y (List.mem_of_mem_take hy)
  have hokd : FOk (l.drop (k + 1)) := fun y hy => hok y (List.mem_of_mem_drop hy)
  have e0 : l.set k (x.1, id) = l.take k ++ (x.1, id) :: l.drop (k + 1) := by rw [List.set_eq_take_append_cons_drop, if_pos hkl]
  have e1 : cur.toList.take (k * 17) = flatF (l.take k) := by rw [← flatF_take hok k, ← htk, List.take_take, Nat.min_eq_left (by omega)]
  have hf : FOk (l.set k (x.1, id)) := fun y hy => by
    rcases List.mem_or_eq_of_mem_set hy with h | rfl
    · exact hok y h
    · exact ⟨hxo.1, hid⟩
  have e2 : cur.toList[k * 17]? = some (.int .u8 x.1) := by
    have h1 := flatF_at hok hx (t := 0) (by omega)
    rw [← htk, List.getElem?_take, if_pos (by omega)] at h1
    simpa [cellsF] using h1
  have e3 : cur.toList.take (k * 17 + 1) = flatF (l.take k) ++ [.int .u8 x.1] := by
    rw [List.take_add_one, e1, e2]; rfl
  have e4 : (cur.toList.drop ((k + 1) * 17)).take ((l.length - (k + 1)) * 17) = flatF (l.drop (k + 1)) := by
    rw [← flatF_drop hok (k + 1), ← htk, List.drop_take]
    congr 1
    omega
  refine ⟨?_, .inr ⟨g, cap, _, ?_, hBg, hw, ?_, hcm, ?_, ?_⟩⟩
  · rw [flatF_len hf]
  · rw [List.length_set]
  · rw [List.length_set]; exact hnc
  · rw [List.size_toArray, length_splice _ _ _ (by omega), hcl]
  · rw [List.length_set, List.toList_toArray]
    unfold splice
    rw [e3, hidl, show k * 17 + 1 + 16 = (k + 1) * 17 by omega, e0, flatF_append, flatF, List.append_assoc]
    rw [show l.length * 17 = (flatF (l.take k)).length + (17 + (l.length - (k + 1)) * 17) by rw [flatF_len hokt, List.length_take]; omega, List.take_length_add_append]
    congr 1
    rw [show ([Value.int .u8 x.1] ++ (cellsId id ++ cur.toList.drop ((k + 1) * 17))) = cellsF (x.1, id) ++ cur.toList.drop ((k + 1) * 17) by simp [cellsF]]
    rw [show 17 = (cellsF (x.1, id)).length by simp [cellsF, hidl], List.take_length_add_append]
    congr 1
    rw [show (cellsF (x.1, id)).length = 17 by simp [cellsF, hidl]]
    exact e4

theorem list16 (id : List Int) (h : id.length = 16) : ∃ d0 d1 d2 d3 d4 d5 d6 d7 d8 d9 d10 d11 d12 d13 d14 d15 : Int, id = [d0, d1, d2, d3, d4, d5, d6, d7, d8, d9, d10, d11, d12, d13, d14, d15] := by
  match id, h with
  | [d0, d1, d2, d3, d4, d5, d6, d7, d8, d9, d10, d11, d12, d13, d14, d15], _ => exact ⟨_, _, _, _, _, _, _, _, _, _, _, _, _, _, _, _, rfl⟩

theorem enters25 (args : Array Value) (w : World) : (callFunc 25 args).run Yba.prog w = .ok (.enter 25 args) w := by
  have hf := Yba.func25
  have h1 : Yba.f25.name ≠ "runtime.NumGoroutine" := by decide +kernel
  have hb : ∃ c, Yba.f25.body = some c := ⟨_, rfl⟩
  obtain ⟨c, hb⟩ := hb
  simp [callFunc, hf, h1, hb, mark]
/-- A call of Insert by its contract, as one step of a region that draws. -/
theorem step_insert {ops : Array Oper} {o : Oper} {a : Act} {w : World} {K : Act → World → Prop} {Q : Exit → Act → World → Prop} {E : Prop}
    (hg : o.guard = none) (x y z : Operand) (ts : Array TypeId) (hop : o.op = Op.call { callee := Callee.value (Operand.func 25), args := #[x, y, z], argTypes := ts })
    (vx vy vz : Value) (hx : a.eval x = vx) (hy : a.eval y = vy) (hz : a.eval z = vz) (R : Value → World → Prop) (h : Calls Yba.prog 25 #[vx, vy, vz] w fun e w' => ∃ v, e = .returned v ∧ R v w') (hK : ∀ v w', R v w' → K (a.put o.dst v) w') :
    if Region.wanted o (yielded ops a.tmps) = true then Oper.wp Yba.prog o a w K Q else E := by
  have hw : Region.wanted o (yielded ops a.tmps) = true := by simp [Region.wanted, hg]
  rw [if_pos hw]
  unfold Oper.wp
  have hf := enters25 #[vx, vy, vz] w
  have he : a.eval (Operand.func 25) = Value.func (Fn.func 25) #[] #[] := rfl
  simp [execOp, hop, resolve, invoke, hx, hy, hz, he, Deferred.ofValue, hf, Result.andThen]
  rw [Oper.upon_enter]
  refine h.mono ?_
  rintro e w' ⟨v, rfl, hR⟩
  exact hK v w' hR

set_option maxHeartbeats 2000000 in
set_option maxRecDepth 100000 in
theorem setFinger_any (T B : Nat) (self : List Int) (vp vs vf : Value) (l : List Fg) (i : Int) (id : List Int) (hi0 : 1 ≤ i) (hi1 : i ≤ 128) (hs : self.length = 16) (hid : IdOk id) (hok : FOk l) (hasc : Asc l) (hl : l.length ≤ 1024) (w : World)
    (hTB : TBlk w T self vp vs vf) (hT : Tab w B vf l) (hB : B ≤ w.heap.size) :
    Calls Yba.prog 8 #[.pointer (some ⟨T, 0, none⟩), .int .i64 i, idv id] w fun e w' => e = .returned (.tuple #[]) ∧ ∃ vf' l', TBlk w' T self vp vs vf' ∧ Tab w' B vf' l' ∧ Setted l i id l' ∧ Kept2 w w' T vf := by
  have hTv := tab_ne hTB hT
  unfold idv
  have B1 := Blk.new w id
  have T1 : TBlk (w.alloc (.cells (cellsId id).toArray 23)) T self vp vs vf := hTB.later ((Below.refl _ _).alloc (Nat.le_refl _) _)
  have A1 : Tab (w.alloc (.cells (cellsId id).toArray 23)) B vf l := hT.later ((Below.refl _ _).alloc (Nat.le_refl _) _)
  have L1 : Below w.heap.size w (w.alloc (.cells (cellsId id).toArray 23)) := (Below.refl _ _).alloc (Nat.le_refl _) _
  have S1 : w.heap.size ≤ (w.alloc (.cells (cellsId id).toArray 23)).heap.size := by simp
  go_enter Yba.func8, Yba.ntmps8
  go_wp2_with fail
  refine (find_any T B self vp vs vf l i (by omega) (by omega) hs hok hasc hl _ T1 A1).mono ?_
  rintro e w1 ⟨k, hk, rfl, hb1⟩
  have T2 := T1.later hb1
  have A2 := A1.later hb1
  have B2 := B1.later hb1
  have L2 := L1.trans (hb1.mono S1)
  clear T1 A1 B1 L1 S1 hb1 hTB hT
  have cF := T2.cellF hs
  have hTlt := T2.lt
  rcases Bool.eq_false_or_eq_true (isAt l i k) with hat | hat
  · obtain ⟨x, hx, hxi⟩ : ∃ x, l[k]? = some x ∧ x.1 = i := by
      unfold isAt at hat
      split at hat
      · exact ⟨_, by assumption, by simpa using hat⟩
      · cases hat
    have hkl : k < l.length := (List.getElem?_eq_some_iff.1 hx).1
    rcases A2.2 with ⟨_, hn0⟩ | ⟨g, cap, cur, hv, hBg, hg, hnc, hcm, hcs, htk⟩
    · omega
    · subst hv
      have hgT : g ≠ T := fun e => hTv (by rw [e]; rfl)
      have hg' : w1.heap[g]? = some (.cells cur.toList.toArray 65 (0, 0)) := by simpa using hg
      obtain ⟨n, hn⟩ : ∃ n, n = l.length := ⟨_, rfl⟩
      have hkn : k < n := by omega
      have HG : Hid (w1.heap[g]? = some (.cells cur.toList.toArray 65 (0, 0))) := hg'
      have HB : Hid (∀ w', (∃ m, w' = w1.drewN m) → w'.rangeAt w.heap.size 0 (cellsId id)) := by rintro w' ⟨m, rfl⟩; exact B2.range
      have HF : Hid (k * 17 + 1 + (cellsId id).length ≤ cur.toList.length) := by
        show _ ≤ _
        rw [show (cellsId id).length = 16 by simp [cellsId, hid.1], Array.length_toList, hcs]
        omega
      rw [← hn] at cF
      have HTA : Hid (∀ w' : World, w'.heap[g]? = some (.cells (splice cur.toList (k * 17 + 1) (cellsId id)).toArray 65 (0, 0)) → Tab w' B (.slice (some ⟨g, 0, none⟩) n cap) (l.set k (i, id))) := fun w' h => by
        rw [hn, ← hxi]
        exact Tab.set (w := w1) (n := n) hok k x id hx hid hBg hnc hcm hcs htk h
      have HSE : Hid (Setted l i id (l.set k (i, id))) := setted_set l i id hi0 hi1 hid hok hasc k x hx hxi
      have H2 : Hid (TBlk w1 T self vp vs (.slice (some ⟨g, 0, none⟩) n cap)) := by rw [hn]; exact T2
      rw [hat]
      have HL : Hid (Below w.heap.size w w1) := L2
      clear hg hg' T2 A2 B2 L2 hn hcs htk hat hcm hnc
      go_wp2
      refine wp_region_drew_tail 8 (by kernel_rfl) (by kernel_rfl) ?_
      simp only [List.take_succ_cons, List.take_zero, List.drop_succ_cons, List.drop_zero]
      iterate 5 (go_big_quiet_step (fail))
      refine qload_id rfl (.tmp 5) rfl _ _ rfl id hid.1 HB.out ?_
      simp only [Act.put, List.setIfInBounds_toArray, List.set_cons_succ, List.set_cons_zero]
      iterate 2 (go_big_quiet_step (fail))
      refine wpQuiet_nil ?_
      intro w3 hw3
      obtain ⟨n3, rfl⟩ := hw3
      go_wp2_with (refine wpList_store_splice rfl 23 (.tmp 22) (.tmp 20) rfl g (k * 17 + 1) (cellsId id) cur.toList rfl rfl 65 HG.out HF.out (by rw [info23]; simp [cellsId, hid.1]) (cellsId_one id) ?_; intro w4 hg4 hgr4)
      simp only [Act.put]
      refine bodyPost_ret (results_none rfl _ _ _) rfl ?_
      refine ⟨rfl, _, _, ?_, HTA.out _ hg4.out, HSE.out, ?_⟩
      · show w4.heap[T]? = _
        rw [hgr4.block T hTlt (by simpa using Ne.symm hgT)]
        exact H2.out
      · refine ⟨hgr4.os.trans HL.out.os, hgr4.tape.trans HL.out.tape, hgr4.output.trans HL.out.output, Nat.le_trans HL.out.size hgr4.size, fun j hj h1 h2 => ?_⟩
        rw [hgr4.block j (Nat.lt_of_lt_of_le hj HL.out.size) (fun e => h2 (by rw [e]; rfl))]
        exact HL.out.block j hj
  · have HSE : Hid (Setted l i id (l.take k ++ (i, id) :: l.drop k)) := setted_ins l i id hi0 hi1 hid hok hasc k hk hat
    have hx : FgOk (i, id) := ⟨⟨by show 0 ≤ i; omega, by show i ≤ 255; omega⟩, hid⟩
    have HIN : Hid (∀ W : World, Below w1.heap.size w1 W → One W w1.heap.size (i, id) → Calls Yba.prog 25 #[vf, .int .i64 k, .slice (some ⟨w1.heap.size, 0, none⟩) 1 1] W fun e w' => ∃ v, e = .returned v ∧ (Tab w' B v (l.take k ++ (i, id) :: l.drop k) ∧ W.grownBy w' vf.ownBlock)) := fun W hW h1 =>
      insert_any B vf l k (i, id) w1.heap.size W hok hx hk.le hl (A2.later hW) (Nat.le_trans hB (Nat.le_trans L2.size hW.size)) h1 (fun e => by have := (World.ownsRow.lt A2 _ e).2; omega)
    obtain ⟨d0, d1, d2, d3, d4, d5, d6, d7, d8, d9, d10, d11, d12, d13, d14, d15, hdd⟩ := list16 id hid.1
    rw [hdd] at B2
    have c0 := B2.cell 0 (by simp)
    have c1 := B2.cell 1 (by simp)
    have c2 := B2.cell 2 (by simp)
    have c3 := B2.cell 3 (by simp)
    have c4 := B2.cell 4 (by simp)
    have c5 := B2.cell 5 (by simp)
    have c6 := B2.cell 6 (by simp)
    have c7 := B2.cell 7 (by simp)
    have c8 := B2.cell 8 (by simp)
    have c9 := B2.cell 9 (by simp)
    have c10 := B2.cell 10 (by simp)
    have c11 := B2.cell 11 (by simp)
    have c12 := B2.cell 12 (by simp)
    have c13 := B2.cell 13 (by simp)
    have c14 := B2.cell 14 (by simp)
    have c15 := B2.cell 15 (by simp)
    simp only [List.getD_cons_zero, List.getD_cons_succ] at c0 c1 c2 c3 c4 c5 c6 c7 c8 c9 c10 c11 c12 c13 c14 c15
    have hAL : Below w1.heap.size w1 (w1.drew.alloc (.cells #[.int .u8 i, .int .u8 d0, .int .u8 d1, .int .u8 d2, .int .u8 d3, .int .u8 d4, .int .u8 d5, .int .u8 d6, .int .u8 d7, .int .u8 d8, .int .u8 d9, .int .u8 d10, .int .u8 d11, .int .u8 d12, .int .u8 d13, .int .u8 d14, .int .u8 d15] 65)) := (Below.refl _ w1).drew.alloc (Nat.le_refl _) _
    have hONE : One (w1.drew.alloc (.cells #[.int .u8 i, .int .u8 d0, .int .u8 d1, .int .u8 d2, .int .u8 d3, .int .u8 d4, .int .u8 d5, .int .u8 d6, .int .u8 d7, .int .u8 d8, .int .u8 d9, .int .u8 d10, .int .u8 d11, .int .u8 d12, .int .u8 d13, .int .u8 d14, .int .u8 d15] 65)) w1.heap.size (i, id) := by
      rw [hdd]
      exact heap_alloc_new w1.drew _
    have HCALL : Hid (Calls Yba.prog 25 #[vf, .int .i64 k, .slice (some ⟨w1.heap.size, 0, none⟩) 1 1] (w1.drew.alloc (.cells #[.int .u8 i, .int .u8 d0, .int .u8 d1, .int .u8 d2, .int .u8 d3, .int .u8 d4, .int .u8 d5, .int .u8 d6, .int .u8 d7, .int .u8 d8, .int .u8 d9, .int .u8 d10, .int .u8 d11, .int .u8 d12, .int .u8 d13, .int .u8 d14, .int .u8 d15] 65)) fun e w' => ∃ v, e = .returned v ∧ (Tab w' B v (l.take k ++ (i, id) :: l.drop k) ∧ (w1.drew.alloc (.cells #[.int .u8 i, .int .u8 d0, .int .u8 d1, .int .u8 d2, .int .u8 d3, .int .u8 d4, .int .u8 d5, .int .u8 d6, .int .u8 d7, .int .u8 d8, .int .u8 d9, .int .u8 d10, .int .u8 d11, .int .u8 d12, .int .u8 d13, .int .u8 d14, .int .u8 d15] 65)).grownBy w' vf.ownBlock)) := HIN.out _ hAL hONE
    have HTW : Hid (∀ w2, (w1.drew.alloc (.cells #[.int .u8 i, .int .u8 d0, .int .u8 d1, .int .u8 d2, .int .u8 d3, .int .u8 d4, .int .u8 d5, .int .u8 d6, .int .u8 d7, .int .u8 d8, .int .u8 d9, .int .u8 d10, .int .u8 d11, .int .u8 d12, .int .u8 d13, .int .u8 d14, .int .u8 d15] 65)).grownBy w2 vf.ownBlock → TBlk w2 T self vp vs vf) := fun w2 h => by
      show w2.heap[T]? = _
      rw [h.block T (Nat.lt_of_lt_of_le hTlt hAL.size) (Ne.symm hTv)]
      exact T2.later hAL
    have HKE : Hid (∀ w2 v, (w1.drew.alloc (.cells #[.int .u8 i, .int .u8 d0, .int .u8 d1, .int .u8 d2, .int .u8 d3, .int .u8 d4, .int .u8 d5, .int .u8 d6, .int .u8 d7, .int .u8 d8, .int .u8 d9, .int .u8 d10, .int .u8 d11, .int .u8 d12, .int .u8 d13, .int .u8 d14, .int .u8 d15] 65)).grownBy w2 vf.ownBlock → Kept2 w (w2.setCell ⟨T, 18, none⟩ v) T vf) := fun w2 v h => by
      refine ⟨h.os.trans (hAL.os.trans L2.os), h.tape.trans (hAL.tape.trans L2.tape), h.output.trans (hAL.output.trans L2.output), ?_, fun j hj h1 h2 => ?_⟩
      · have := h.size; have := hAL.size; have := L2.size; simp only [World.size_setCell]; omega
      · rw [heap_setCell_other w2 ⟨T, 18, none⟩ j v h1, h.block j (Nat.lt_of_lt_of_le hj (Nat.le_trans L2.size hAL.size)) (Ne.symm h2), hAL.block j (Nat.lt_of_lt_of_le hj L2.size)]
        exact L2.block j hj
    have HST : Hid (∀ w2 v, TBlk w2 T self vp vs vf → TBlk (w2.setCell ⟨T, 18, none⟩ v) T self vp vs v) := fun w2 v h => by
      have := heap_setCell_same w2 T 18 _ 33 v h
      unfold TBlk
      rw [this]
      simp [cellsId, List.set_append, hs]
    have HTT : Hid (∀ w2 v v', TBlk w2 T self vp vs vf → Tab w2 B v (l.take k ++ (i, id) :: l.drop k) → Tab (w2.setCell ⟨T, 18, none⟩ v') B v (l.take k ++ (i, id) :: l.drop k)) := fun w2 v v' h1 h2 =>
      h2.kept (grownBy_setCell w2 T 18 v') (.inr (tab_ne h1 h2))
    have HFR : Hid (∀ w2, TBlk w2 T self vp vs vf → w2.frozen? ⟨T, 18, none⟩ = false) := fun w2 h => frozen_of_row w2 T 18 _ 33 h
    have hw8 : IntKind.u8.wrap i = i := by simp [IntKind.wrap, IntKind.bits, IntKind.signed]; omega
    rw [hat]
    have HSI : Hid (self.length = 16) := hs
    clear T2 A2 B2 L2 hat hk HIN hAL hONE hTv hdd hs
    obtain ⟨LL, hLL⟩ : ∃ LL, LL = l.take k ++ (i, id) :: l.drop k := ⟨_, rfl⟩
    rw [← hLL] at HCALL HTT HSE
    clear hLL
    go_wp2
    go_region_law ((refine step_insert rfl (.tmp 27) (.tmp 28) (.tmp 33) _ rfl vf (.int .i64 k) (.slice (some ⟨w1.heap.size, 0, none⟩) 1 1) rfl rfl rfl _ HCALL.out ?_; intro v2 w2 hR; obtain ⟨p2, m2, q2, rfl⟩ := hR.1.form; have TW : Hid (TBlk w2 T self vp vs vf) := HTW.out w2 hR.2; have c18 := TW.out.cellF HSI.out; have f18 := HFR.out w2 TW.out; have HT2 : Hid (Tab w2 B (.slice p2 m2 q2) LL ∧ (w1.drew.alloc (.cells #[.int .u8 i, .int .u8 d0, .int .u8 d1, .int .u8 d2, .int .u8 d3, .int .u8 d4, .int .u8 d5, .int .u8 d6, .int .u8 d7, .int .u8 d8, .int .u8 d9, .int .u8 d10, .int .u8 d11, .int .u8 d12, .int .u8 d13, .int .u8 d14, .int .u8 d15] 65)).grownBy w2 vf.ownBlock) := hR; clear hR))
    all_goals
      go_wp2
      go_end0
      exact ⟨rfl, _, LL, HST.out w2 _ TW.out, HTT.out w2 _ _ TW.out HT2.out.1, HSE.out, HKE.out w2 _ HT2.out.2⟩
end Go.Proofs.Ybulkadlc
