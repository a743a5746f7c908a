import Derived.Test.YbulkadlcDelF
import Derived.Test.YbulkadlcCho
namespace Go.Proofs.Ybulkadlc
open Go.RowKit Go.QuietTail
set_option linter.unusedVariables false
set_option linter.unusedSimpArgs false


/-- The table: its block, its two sides. -/
structure TI (w : World) (N : Nat) (me : List Int) (p s : List (List Int)) (K : Nat) : Prop where
  ex : ∃ vp vs, NT w N me vp vs ∧ IdsR w vp p ∧ IdsR w vs s ∧ (∀ b o n c, vp = .slice (some ⟨b, o, none⟩) n c → K ≤ b) ∧ (∀ b o n c, vs = .slice (some ⟨b, o, none⟩) n c → K ≤ b)
  hp : IsOk p
  hs : IsOk s
  near : ∃ X, Near (kd me false) X p ∧ Near (kd me true) X s

set_option maxHeartbeats 1000000 in
theorem remove_any (N : Nat) (me d : List Int) (p s : List (List Int)) (hm : IdOk me) (hd : IdOk d) (w : World) (K : Nat) (hK : K ≤ w.heap.size) (h : TI w N me p s K) :
    Calls Yba.prog 30 #[.pointer (some ⟨N, 0, none⟩), idv d] w fun e w' => (∃ b, e = .returned (.bool b)) ∧ (∃ p' s', TI w' N me p' s' K) ∧ w.grownBy w' (some N) := by
  obtain ⟨⟨vp, vs, hN, hP, hS, hk1, hk2⟩, hp, hs, XX, hnp, hns⟩ := h
  have lp := hnp.len
  have ls := hns.len
  have L1 : Below w.heap.size w (w.alloc (.cells (cellsId d).toArray 23)) := (Below.refl _ w).alloc (Nat.le_refl _) _
  have B1 := Blk.new w d
  have S1 : w.heap.size < (w.alloc (.cells (cellsId d).toArray 23)).heap.size := by simp
  have HPE : Hid _ := peers_any N me vp vs p s hm.1 hp hs (by omega) (by omega) _ (hN.later L1) (hP.later L1) (hS.later L1)
  have hpl : (peersL p s).length ≤ 64 := Nat.le_trans (peersL_len s p) (by omega)
  have hpo := peersL_ok hp hs
  unfold idv
  go_enter Yba.func30, Yba.ntmps30
  go_wp2_with fail
  refine Calls.mono (peers_any N me vp vs p s hm.1 hp hs (by omega) (by omega) _ (hN.later L1) (hP.later L1) (hS.later L1)) ?_
  rintro e w1 ⟨v1, rfl, hI1, hb1⟩
  clear HPE
  obtain ⟨p1, n1, c1, rfl⟩ := hI1.form2
  have hne : (Value.slice p1 n1 c1).ownBlock ≠ some w.heap.size := fun e => by have := (World.ownsRow.lt hI1 _ e).1; omega
  have L2 : Below w.heap.size w w1 := L1.trans (hb1.mono (Nat.le_of_lt S1))
  go_wp2_with fail
  refine (delf_any _ w.heap.size _ (peersL p s) d hd hpo (by omega) w1 hI1 (B1.later hb1) hne).mono ?_
  rintro e w2 ⟨v2, rfl, hI2, hg2⟩
  obtain ⟨p2, n2, c2, rfl⟩ := hI2.form2
  have L3 : Below w.heap.size w w2 := L2.grown hg2 L2.size (fun k hk => by have := (World.ownsRow.lt hI1 k hk).1; omega)
  have hdo : IsOk (delL (peersL p s) d) := fun x hx => hpo x ((List.mem_filter.1 hx).1)
  have hdl : (delL (peersL p s) d).length ≤ 64 := Nat.le_trans (List.length_filter_le _ _) hpl
  go_wp2_with fail
  refine (choose_any N _ me vp vs _ p s (delL (peersL p s) d) w2 hm hp hs (by omega) (by omega) hdo (by omega) (hN.later L3) (hP.later L3) (hS.later L3) hI2).mono ?_
  rintro e w3 ⟨p', s', vp', vs', hnn, rfl, hN3, hP3, hS3, hg3, hq1, hq2⟩
  have HF : Hid ((∃ p' s', TI w3 N me p' s' K) ∧ w.grownBy w3 (some N)) := ⟨⟨p', s', ⟨vp', vs', hN3, hP3, hS3, fun b o n c h => Nat.le_trans (Nat.le_trans hK L3.size) (hq1 b o n c h), fun b o n c h => Nat.le_trans (Nat.le_trans hK L3.size) (hq2 b o n c h)⟩, hnn.2.2.1, hnn.2.2.2, _, hnn.1, hnn.2.1⟩, grownBy_trans (grownBy_of_below L3 _) hg3⟩
  clear hnn hN3 hP3 hS3 hg3 hq1 hq2
  go_wp2
  go_ret
  exact ⟨⟨_, rfl⟩, HF.out⟩

theorem enters32 (args : Array Value) (w : World) : (callFunc 32 args).run Yba.prog w = .ok (.enter 32 args) w := by
  have hf := Yba.func32
  have h1 : Yba.f32.name ≠ "runtime.NumGoroutine" := by decide +kernel
  have hb : ∃ c, Yba.f32.body = some c := ⟨_, rfl⟩
  obtain ⟨c, hb⟩ := hb
  simp [callFunc, hf, h1, hb, mark]
theorem enters31 (args : Array Value) (w : World) : (callFunc 31 args).run Yba.prog w = .ok (.enter 31 args) w := by
  have hf := Yba.func31
  have h1 : Yba.f31.name ≠ "runtime.NumGoroutine" := by decide +kernel
  have hb : ∃ c, Yba.f31.body = some c := ⟨_, rfl⟩
  obtain ⟨c, hb⟩ := hb
  simp [callFunc, hf, h1, hb, mark]
theorem step_peers {ops : Array Oper} {o : Oper} {a : Act} {w : World} {K : Act → World → Prop} {Q : Exit → Act → World → Prop} {E : Prop}
    (hg : o.guard = none) (x : Operand) (ts : Array TypeId) (hop : o.op = Op.call { callee := Callee.value (Operand.func 32), args := #[x], argTypes := ts })
    (vx : Value) (hx : a.eval x = vx) (R : Value → World → Prop) (h : Calls Yba.prog 32 #[vx] w fun e w' => ∃ v, e = .returned v ∧ R v w') (hK : ∀ v w', R v w' → K (a.put o.dst v) w') :
    if Region.wanted o (yielded ops a.tmps) = true then Oper.wp Yba.prog o a w K Q else E := by
  have hw : Region.wanted o (yielded ops a.tmps) = true := by simp [Region.wanted, hg]
  rw [if_pos hw]
  unfold Oper.wp
  have hf := enters32 #[vx] w
  have he : a.eval (Operand.func 32) = Value.func (Fn.func 32) #[] #[] := rfl
  simp [execOp, hop, resolve, invoke, hx, he, Deferred.ofValue, hf, Result.andThen]
  rw [Oper.upon_enter]
  refine h.mono ?_
  rintro e w' ⟨v, rfl, hR⟩
  exact hK v w' hR
theorem step_choose {ops : Array Oper} {o : Oper} {a : Act} {w : World} {K : Act → World → Prop} {Q : Exit → Act → World → Prop} {E : Prop}
    (hg : o.guard = none) (x y : Operand) (ts : Array TypeId) (hop : o.op = Op.call { callee := Callee.value (Operand.func 31), args := #[x, y], argTypes := ts })
    (vx vy : Value) (hx : a.eval x = vx) (hy : a.eval y = vy) (R : Value → World → Prop) (h : Calls Yba.prog 31 #[vx, vy] w fun e w' => ∃ v, e = .returned v ∧ R v w') (hK : ∀ v w', R v w' → K (a.put o.dst v) w') :
    if Region.wanted o (yielded ops a.tmps) = true then Oper.wp Yba.prog o a w K Q else E := by
  have hw : Region.wanted o (yielded ops a.tmps) = true := by simp [Region.wanted, hg]
  rw [if_pos hw]
  unfold Oper.wp
  have hf := enters31 #[vx, vy] w
  have he : a.eval (Operand.func 31) = Value.func (Fn.func 31) #[] #[] := rfl
  simp [execOp, hop, resolve, invoke, hx, hy, he, Deferred.ofValue, hf, Result.andThen]
  rw [Oper.upon_enter]
  refine h.mono ?_
  rintro e w' ⟨v, rfl, hR⟩
  exact hK v w' hR
/-- append onto a row of the call's own, as one step of a region that draws. -/
theorem step_append_ids {ops : Array Oper} {o : Oper} {a : Act} {w : World} {K : Act → World → Prop} {Q : Exit → Act → World → Prop} {E : Prop}
    (hg : o.guard = none) (s x : Operand) (hop : o.op = Op.call { callee := Callee.builtin Builtin.append, args := #[s, x], argTypes := #[24, 24] })
    (base : Nat) (v : Value) (L : List (List Int)) (hs : a.eval s = v) (hown : Ids w base v L) (g : Nat) (d : List Int) (hd : IdOk d) (hx : a.eval x = .slice (some ⟨g, 0, none⟩) 1 1) (hB : Blk w g d) (hl : L.length ≤ 4096) (hb : base ≤ w.heap.size)
    (hK : ∀ v' w', Ids w' base v' (L ++ [d]) → w.grownBy w' v.ownBlock → K (a.put o.dst v') w') :
    if Region.wanted o (yielded ops a.tmps) = true then Oper.wp Yba.prog o a w K Q else E := by
  have hw : Region.wanted o (yielded ops a.tmps) = true := by simp [Region.wanted, hg]
  rw [if_pos hw]
  obtain ⟨i0, hi0, hz0, hz1, hz2⟩ := info_parts info23z
  refine wp_append_own w s x 24 hop base 23 i0 zeroI 16 16 Yba.underlying24 hi0 hz0 hz1 hz2 zeroI_size (by omega) v L.length (flatI L) hs hown ⟨g, 0, none⟩ 1 1 (cellsId d) hx (by rw [cellsId_len hd]) hB.cells' (cellsId_one d) (by unfold maxLen; omega) (by omega) hb ?_
  intro v' w' h1 h2 _
  refine hK v' w' ?_ h2
  unfold Ids
  rw [flatI_append, List.length_append]
  simpa [flatI] using h1

set_option maxHeartbeats 2000000 in
theorem add_any (N : Nat) (me d : List Int) (p s : List (List Int)) (hm : IdOk me) (hd : IdOk d) (w : World) (K : Nat) (hK : K ≤ w.heap.size) (h : TI w N me p s K) :
    Calls Yba.prog 20 #[.pointer (some ⟨N, 0, none⟩), idv d] w fun e w' => (∃ p' s', TI w' N me p' s' K ∧ ((d = me ∧ e = .returned (.bool false) ∧ p' = p ∧ s' = s) ∨ (d ≠ me ∧ Near (kd me false) (peersL p s ++ [d]) p' ∧ Near (kd me true) (peersL p s ++ [d]) s' ∧ e = .returned (.bool (!decide (p' = p) || !decide (s' = s)))))) ∧ w.grownBy w' (some N) := by
  have hTI := h
  obtain ⟨⟨vp, vs, hN, hP, hS, hk1, hk2⟩, hp, hs, XX, hnp, hns⟩ := h
  have lp := hnp.len
  have ls := hns.len
  have L1 : Below w.heap.size w (w.alloc (.cells (cellsId d).toArray 23)) := (Below.refl _ w).alloc (Nat.le_refl _) _
  have B1 := Blk.new w d
  have S1 : w.heap.size < (w.alloc (.cells (cellsId d).toArray 23)).heap.size := by simp
  have hpl : (peersL p s).length ≤ 64 := Nat.le_trans (peersL_len s p) (by omega)
  have hpo := peersL_ok hp hs
  have ng := noGuard23
  generalize hW1 : (w.alloc (.cells (cellsId d).toArray 23)) = w1 at *
  have H1 : Hid (∀ w', (∃ m, w' = w1.drewN m) → w'.rangeAt w.heap.size 0 (cellsId d)) := by rintro w' ⟨m, rfl⟩; exact B1.range
  have H2 : Hid (∀ w', (∃ m, w' = w1.drewN m) → w'.rangeAt N 0 (cellsId me)) := by rintro w' ⟨m, rfl⟩; exact (hN.later L1).me
  have HTI : Hid (TI w N me p s K) := hTI
  have HL1 : Hid (Below w.heap.size w w1) := L1
  clear hTI
  unfold idv
  by_cases hdm : d = me
  · have eq1 : ∀ w, (Op.equalIn 10000 23 (.agg (cellsId d).toArray) (.agg (cellsId me).toArray)).run Yba.prog w = .ok true w := fun w => by rw [run_eql_id d me hd.1 hm.1 w, decide_eq_true hdm]
    have HDM : Hid (d = me) := hdm
    clear hdm
    go_enter Yba.func20, Yba.ntmps20
    go_wp2
    refine wp_region_quiet_lit (by kernel_rfl) (by kernel_rfl) ?_
    refine qload_id rfl (.tmp 3) rfl _ _ rfl d hd.1 H1.out ?_
    simp only [Act.put, List.setIfInBounds_toArray, List.set_cons_succ, List.set_cons_zero]
    iterate 3 (go_big_quiet_step (fail))
    refine qload_id rfl (.tmp 8) rfl _ _ rfl me hm.1 H2.out ?_
    simp only [Act.put, List.setIfInBounds_toArray, List.set_cons_succ, List.set_cons_zero]
    go_big_quiet_step (fail)
    refine wpQuiet_nil ?_
    intro wz hwz
    obtain ⟨nq, rfl⟩ := hwz
    go_wp2
    go_ret
    have LL : Below w.heap.size w (w1.drewN nq) := below_drewN HL1.out nq
    exact ⟨⟨p, s, ⟨⟨vp, vs, hN.later LL, hP.later LL, hS.later LL, hk1, hk2⟩, hp, hs, XX, hnp, hns⟩, .inl ⟨HDM.out, rfl, rfl, rfl⟩⟩, grownBy_of_below LL _⟩
  · have eq1 : ∀ w, (Op.equalIn 10000 23 (.agg (cellsId d).toArray) (.agg (cellsId me).toArray)).run Yba.prog w = .ok false w := fun w => by rw [run_eql_id d me hd.1 hm.1 w, decide_eq_false hdm]
    have HDM : Hid (¬ d = me) := hdm
    clear hdm
    go_enter Yba.func20, Yba.ntmps20
    go_wp2
    refine wp_region_quiet_lit (by kernel_rfl) (by kernel_rfl) ?_
    refine qload_id rfl (.tmp 3) rfl _ _ rfl d hd.1 H1.out ?_
    simp only [Act.put, List.setIfInBounds_toArray, List.set_cons_succ, List.set_cons_zero]
    iterate 3 (go_big_quiet_step (fail))
    refine qload_id rfl (.tmp 8) rfl _ _ rfl me hm.1 H2.out ?_
    simp only [Act.put, List.setIfInBounds_toArray, List.set_cons_succ, List.set_cons_zero]
    go_big_quiet_step (fail)
    refine wpQuiet_nil ?_
    intro wz hwz
    obtain ⟨nq, rfl⟩ := hwz
    clear eq1 ng
    have HL2 : Hid (Below w.heap.size w (w1.drewN nq)) := below_drewN HL1.out nq
    have HB2 : Hid (Blk (w1.drewN nq) w.heap.size d) := B1
    go_wp2
    clear H1 H2 HL1 B1 L1 S1 hW1
    generalize w1.drewN nq = w2 at *
    have HCE : Hid (∀ w3, Below w2.heap.size w2 w3 → ∀ j, j < 16 → w3.cell? ⟨w.heap.size, j, none⟩ = some (.int .u8 (d.getD j 0))) := fun w3 h j hj => (HB2.out.later h).cell j (by rw [hd.1]; exact hj)
    have HPE : Hid (∀ W, Below w2.heap.size w2 W → Calls Yba.prog 32 #[.pointer (some ⟨N, 0, none⟩)] W fun e w' => ∃ v, e = .returned v ∧ (Ids w' w2.heap.size v (peersL p s) ∧ Below w2.heap.size w2 w' ∧ Below W.heap.size W w')) := fun W h => by
      have hLL := HL2.out.trans (h.mono HL2.out.size)
      refine (peers_any N me vp vs p s hm.1 hp hs (by omega) (by omega) W (hN.later hLL) (hP.later hLL) (hS.later hLL)).mono ?_
      rintro e w' ⟨v, rfl, h1, h2⟩
      exact ⟨v, rfl, ⟨h1.1, h1.2.imp (fun x => x) (fun ⟨g, cap, cur, a1, a2, a3⟩ => ⟨g, cap, cur, a1, Nat.le_trans h.size a2, a3⟩)⟩, h.trans (h2.mono h.size), h2⟩
    obtain ⟨d0, d1, d2, d3, d4, d5, d6, d7, d8, d9, d10, d11, d12, d13, d14, d15, hdd⟩ := list16 d hd.1
    have HDD : Hid (d = [d0, d1, d2, d3, d4, d5, d6, d7, d8, d9, d10, d11, d12, d13, d14, d15]) := hdd
    have c0 := HCE.out w2 (Below.refl _ _) 0 (by omega)
    have c1 := HCE.out w2 (Below.refl _ _) 1 (by omega)
    have c2 := HCE.out w2 (Below.refl _ _) 2 (by omega)
    have c3 := HCE.out w2 (Below.refl _ _) 3 (by omega)
    have c4 := HCE.out w2 (Below.refl _ _) 4 (by omega)
    have c5 := HCE.out w2 (Below.refl _ _) 5 (by omega)
    have c6 := HCE.out w2 (Below.refl _ _) 6 (by omega)
    have c7 := HCE.out w2 (Below.refl _ _) 7 (by omega)
    have c8 := HCE.out w2 (Below.refl _ _) 8 (by omega)
    have c9 := HCE.out w2 (Below.refl _ _) 9 (by omega)
    have c10 := HCE.out w2 (Below.refl _ _) 10 (by omega)
    have c11 := HCE.out w2 (Below.refl _ _) 11 (by omega)
    have c12 := HCE.out w2 (Below.refl _ _) 12 (by omega)
    have c13 := HCE.out w2 (Below.refl _ _) 13 (by omega)
    have c14 := HCE.out w2 (Below.refl _ _) 14 (by omega)
    have c15 := HCE.out w2 (Below.refl _ _) 15 (by omega)
    rw [hdd] at c0 c1 c2 c3 c4 c5 c6 c7 c8 c9 c10 c11 c12 c13 c14 c15
    simp only [List.getD_cons_zero, List.getD_cons_succ] at c0 c1 c2 c3 c4 c5 c6 c7 c8 c9 c10 c11 c12 c13 c14 c15
    have HD0 : Hid (Below w2.heap.size w2 w2.drew) := (Below.refl _ w2).drew
    have HD1 : Hid (Below w2.heap.size w2 (w2.drew.alloc (.cells #[.int .u8 d0, .int .u8 d1, .int .u8 d2, .int .u8 d3, .int .u8 d4, .int .u8 d5, .int .u8 d6, .int .u8 d7, .int .u8 d8, .int .u8 d9, .int .u8 d10, .int .u8 d11, .int .u8 d12, .int .u8 d13, .int .u8 d14, .int .u8 d15] 23))) := (Below.refl _ w2).drew.alloc (Nat.le_refl _) _
    have HBN : Hid (∀ W : World, Blk (W.alloc (.cells #[.int .u8 d0, .int .u8 d1, .int .u8 d2, .int .u8 d3, .int .u8 d4, .int .u8 d5, .int .u8 d6, .int .u8 d7, .int .u8 d8, .int .u8 d9, .int .u8 d10, .int .u8 d11, .int .u8 d12, .int .u8 d13, .int .u8 d14, .int .u8 d15] 23)) W.heap.size d) := fun W => by show Blk _ _ d; rw [HDD.out]; exact Blk.new W [d0, d1, d2, d3, d4, d5, d6, d7, d8, d9, d10, d11, d12, d13, d14, d15]
    have HCH : Hid (∀ (W : World) (v : Value), Below w2.heap.size w2 W → Ids W w2.heap.size v (peersL p s ++ [d]) → Calls Yba.prog 31 #[.pointer (some ⟨N, 0, none⟩), v] W fun e w' => ∃ v', e = .returned v' ∧ ((∃ p' s', TI w' N me p' s' K ∧ Near (kd me false) (peersL p s ++ [d]) p' ∧ Near (kd me true) (peersL p s ++ [d]) s' ∧ v' = .bool (!decide (p' = p) || !decide (s' = s))) ∧ w.grownBy w' (some N))) := fun W v h hI => by
      have hLL := HL2.out.trans (h.mono HL2.out.size)
      refine (choose_any N _ me vp vs v p s (peersL p s ++ [d]) W hm hp hs (by omega) (by omega) (fun x hx => by rcases List.mem_append.1 hx with h | h; exact hpo x h; rw [List.mem_singleton.1 h]; exact hd) (by simp; omega) (hN.later hLL) (hP.later hLL) (hS.later hLL) hI).mono ?_
      rintro e w' ⟨p', s', vp', vs', hnn, rfl, hN3, hP3, hS3, hg3, hq1, hq2⟩
      exact ⟨_, rfl, ⟨p', s', ⟨⟨vp', vs', hN3, hP3, hS3, fun b o n c h => Nat.le_trans (Nat.le_trans hK hLL.size) (hq1 b o n c h), fun b o n c h => Nat.le_trans (Nat.le_trans hK hLL.size) (hq2 b o n c h)⟩, hnn.2.2.1, hnn.2.2.2, _, hnn.1, hnn.2.1⟩, hnn.1, hnn.2.1, rfl⟩, grownBy_trans (grownBy_of_below hLL _) hg3⟩
    clear hdd hN hP hS hnp hns
    go_region_law (first | (refine step_peers rfl (.tmp 12) _ rfl (.pointer (some ⟨N, 0, none⟩)) rfl _ (HPE.out _ (by first | exact HD0.out | exact HD1.out)) ?_; intro v3 w3 hR; obtain ⟨p3, n3, c3, rfl⟩ := hR.1.form2; have hb3 := hR.2.1; have e0 := HCE.out w3 hb3 0 (by omega); have e1 := HCE.out w3 hb3 1 (by omega); have e2 := HCE.out w3 hb3 2 (by omega); have e3 := HCE.out w3 hb3 3 (by omega); have e4 := HCE.out w3 hb3 4 (by omega); have e5 := HCE.out w3 hb3 5 (by omega); have e6 := HCE.out w3 hb3 6 (by omega); have e7 := HCE.out w3 hb3 7 (by omega); have e8 := HCE.out w3 hb3 8 (by omega); have e9 := HCE.out w3 hb3 9 (by omega); have e10 := HCE.out w3 hb3 10 (by omega); have e11 := HCE.out w3 hb3 11 (by omega); have e12 := HCE.out w3 hb3 12 (by omega); have e13 := HCE.out w3 hb3 13 (by omega); have e14 := HCE.out w3 hb3 14 (by omega); have e15 := HCE.out w3 hb3 15 (by omega); rw [HDD.out] at e0 e1 e2 e3 e4 e5 e6 e7 e8 e9 e10 e11 e12 e13 e14 e15; simp only [List.getD_cons_zero, List.getD_cons_succ] at e0 e1 e2 e3 e4 e5 e6 e7 e8 e9 e10 e11 e12 e13 e14 e15; have HI3 : Hid (Ids w3 w2.heap.size (.slice p3 n3 c3) (peersL p s)) := hR.1; have HB3 : Hid (Below w2.heap.size w2 w3) := hR.2.1; have HW3 : Hid _ := hR.2.2; clear hR hb3) | (refine step_append_ids rfl (.tmp 13) (.tmp 15) rfl w2.heap.size (.slice p3 n3 c3) (peersL p s) rfl (World.ownsRow.alloc HI3.out _) w3.heap.size d hd rfl (HBN.out w3) (by omega) (by have := HB3.out.size; simp; omega) ?_; intro v4 w4 hI4 hg4; obtain ⟨p4, n4, c4, rfl⟩ := hI4.form2; have HI4 : Hid (Ids w4 w2.heap.size (.slice p4 n4 c4) (peersL p s ++ [d])) := hI4; have HB4 : Hid (Below w2.heap.size w2 w4) := (HB3.out.alloc HB3.out.size _).grown hg4 (by have := HB3.out.size; simp; omega) (fun k hk => (World.ownsRow.lt HI3.out k hk).1); clear hI4 hg4) | (refine step_append_ids rfl (.tmp 13) (.tmp 15) rfl w2.heap.size (.slice p3 n3 c3) (peersL p s) rfl HI3.out w2.heap.size d hd rfl ((HBN.out w2.drew).later HW3.out) (by omega) (by have := HB3.out.size; omega) ?_; intro v4 w4 hI4 hg4; obtain ⟨p4, n4, c4, rfl⟩ := hI4.form2; have HI4 : Hid (Ids w4 w2.heap.size (.slice p4 n4 c4) (peersL p s ++ [d])) := hI4; have HB4 : Hid (Below w2.heap.size w2 w4) := HB3.out.grown hg4 (by have := HB3.out.size; omega) (fun k hk => (World.ownsRow.lt HI3.out k hk).1); clear hI4 hg4) | (refine step_choose rfl (.tmp 11) (.tmp 16) _ rfl (.pointer (some ⟨N, 0, none⟩)) (.slice p4 n4 c4) rfl rfl _ (HCH.out w4 _ HB4.out HI4.out) ?_; intro v5 w5 hR5; have HR5 : Hid _ := hR5; clear hR5))
    all_goals
      obtain ⟨⟨p', s', hT5, hn1, hn2, rfl⟩, hg5⟩ := HR5.out
      have HF : Hid (TI w5 N me p' s' K ∧ Near (kd me false) (peersL p s ++ [d]) p' ∧ Near (kd me true) (peersL p s ++ [d]) s' ∧ w.grownBy w5 (some N)) := ⟨hT5, hn1, hn2, hg5⟩
      clear HR5 hT5 hn1 hn2 hg5
      go_wp2
      go_ret
      exact ⟨⟨p', s', HF.out.1, .inr ⟨HDM.out, HF.out.2.1, HF.out.2.2.1, rfl⟩⟩, HF.out.2.2.2⟩
end Go.Proofs.Ybulkadlc
