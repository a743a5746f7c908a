import Derived.Test.YbulkadlcNst2
namespace Go.Proofs.Ybulkadlc
open Go.RowKit Go.QuietTail
set_option linter.unusedVariables false
set_option linter.unusedSimpArgs false

theorem enters26 (args : Array Value) (w : World) : (callFunc 26 args).run Yba.prog w = .ok (.enter 26 args) w := by
  have hf := Yba.func26
  have h1 : Yba.f26.name ≠ "runtime.NumGoroutine" := by decide +kernel
  have hb : ∃ c, Yba.f26.body = some c := ⟨_, rfl⟩
  obtain ⟨c, hb⟩ := hb
  simp [callFunc, hf, h1, hb, mark]
theorem step_gap {ops : Array Oper} {o : Oper} {a : Act} {w : World} {K : Act → World → Prop} {Q : Exit → Act → World → Prop} {E : Prop}
    (hg : o.guard = none) (x y : Operand) (ts : Array TypeId) (hop : o.op = Op.call { callee := Callee.value (Operand.func 26), args := #[x, y], argTypes := ts })
    (vx vy v : Value) (hx : a.eval x = vx) (hy : a.eval y = vy) (R : World → Prop) (h : Calls Yba.prog 26 #[vx, vy] w fun e w' => e = .returned v ∧ R w') (hK : ∀ w', R w' → K (a.put o.dst v) w') :
    if Region.wanted o (yielded ops a.tmps) = true then Oper.wp Yba.prog o a w K Q else E := by
  have hw : Region.wanted o (yielded ops a.tmps) = true := by simp [Region.wanted, hg]
  rw [if_pos hw]
  unfold Oper.wp
  have hf := enters26 #[vx, vy] w
  have he : a.eval (Operand.func 26) = Value.func (Fn.func 26) #[] #[] := rfl
  simp [execOp, hop, resolve, invoke, hx, hy, he, Deferred.ofValue, hf, Result.andThen]
  rw [Oper.upon_enter]
  refine h.mono ?_
  rintro e w' ⟨rfl, hR⟩
  exact hK w' hR

theorem wpList_bn {ops : Array Oper} {rest : List Oper} {o : Oper} {a : Act} {w : World} {Q : Exit → Act → World → Prop} (hg : o.guard = none) (x : Operand) (ho : o.op = .build 85 #[(2, x)]) (d : List Int) (hd : d.length = 16) (hx : a.eval x = .agg (cellsId d).toArray)
    (h : wpList Yba.prog ops Q rest (a.put o.dst (.agg (cellsN 0 0 d).toArray)) w) : wpList Yba.prog ops Q (o :: rest) a w := by
  refine wpList_buildTo hg 85 #[(2, x)] ho o.dst rfl _ ?_ h
  simp only [List.map_toArray, List.map_cons, List.map_nil, hx]
  exact built85 d hd

set_option maxHeartbeats 4000000 in
set_option maxRecDepth 100000 in
theorem nearest_T (N g n B B' : Nat) (me : List Int) (vp vs vq : Value) (after : Bool) (L X : List (List Int)) (w : World) (hm : IdOk me) (hL : IsOk L) (hX : IsOk X) (hn : n = L.length) (hn3 : n ≤ 3) (hxl : X.length ≤ 500) (hB : B ≤ w.heap.size)
    (hN : NT w N me vp vs) (hI : Ids w B (.slice (some ⟨g, 0, none⟩) n 6) L) (hQ : Ids w B' vq X) (hne : vq.ownBlock ≠ some g) (HAFX : Hid (after = true)) :
    Calls Yba.prog 41 #[.pointer (some ⟨N, 0, none⟩), .slice (some ⟨g, 0, none⟩) n 6, vq, .bool after] w fun e w' => ∃ l : List (List Int), Near (kd me after) X l ∧ IsOk l ∧
      e = .returned (.slice (some ⟨g, 0, none⟩) (n + l.length) 6) ∧ Ids w' B (.slice (some ⟨g, 0, none⟩) (n + l.length) 6) (L ++ l) ∧ w.grownBy w' (some g) := by
  obtain ⟨pq, nq, cq, hvq⟩ := hQ.form2
  subst hvq
  have HNQ : Hid (nq = X.length ∧ (0 < nq → ∃ gq, pq = some ⟨gq, 0, none⟩ ∧ gq < w.heap.size)) := by
    rcases hQ.form with ⟨h1, h2⟩ | ⟨gq, c, h1, _, _, h3, _⟩
    · simp at h1; refine ⟨by rw [h2, h1.2.1]; rfl, fun h => by omega⟩
    · simp at h1; exact ⟨h1.2.1, fun _ => ⟨gq, h1.1, h3⟩⟩
  have HN : Hid (NT w N me vp vs) := hN
  have HI : Hid (Ids w B (.slice (some ⟨g, 0, none⟩) n 6) L) := hI
  have HQ : Hid (Ids w B' (.slice pq nq cq) X) := hQ
  have HNL : Hid (n = L.length) := hn
  clear hn
  have z86 := zero86 w
  clear hN hI hQ
  go_enter Yba.func41, Yba.ntmps41
  go_wp2
  clear z86
  go_loopw [10, 19] (fun u t wr => ∃ (j : Nat) (l : List (List Int)), u = .int .i64 l.length ∧ t = .int .i64 j ∧ j ≤ nq ∧ l.length ≤ 3 ∧ Hid (Near (kd me after) (X.take j) l ∧ OB wr w.heap.size me after l ∧ Below w.heap.size w wr)) (fun u t wr => (nq - intOf t).toNat)
  case atStart => exact ⟨0, [], rfl, rfl, Nat.zero_le _, by simp, Near.nil _, OB.new w me after, (Below.refl _ w).alloc (Nat.le_refl _) _⟩
  case round =>
    obtain ⟨j, l, rfl, rfl, hjn, hl3, HH⟩ := hrel
    by_cases hlt : j < nq
    · have hlt' : (j : Int) < (nq : Int) := by omega
      obtain ⟨gq, hpq, hgq⟩ := HNQ.out.2 (by omega)
      subst hpq
      obtain ⟨x, hx⟩ : ∃ x, X[j]? = some x := ⟨_, List.getElem?_eq_getElem (by have := HNQ.out.1; omega)⟩
      have hxo := hX.at hx
      have LD : Hid (wr.rangeAt gq (j * 16) (cellsId x)) := (HQ.out.later HH.out.2.2).range hX hx
      have hnq : nq ≤ 500 := by have := HNQ.out.1; omega
      have hlo : IsOk l := fun y hy => hX y (List.mem_of_mem_take (HH.out.1.sub y hy))
      obtain ⟨kp, hkp⟩ : ∃ kp, kp = l.length := ⟨_, rfl⟩
      have HKP : Hid (kp = l.length) := hkp
      rw [← hkp] at hl3 ⊢
      clear hkp
      have HX : Hid (X[j]? = some x) := hx
      clear hx
      obtain ⟨wo, rfl⟩ : ∃ wo, wo = wr := ⟨wr, rfl⟩
      go_wp2_with (first | (refine wpList_load_mid rfl 23 (.tmp 21) rfl _ _ rfl (cellsId x) _ LD.out Yba.underlying23 rfl (by rw [info23]; simp [cellsId, hxo.1]) ?_) | (refine wpList_store_id rfl (.tmp 12) (.tmp 22) rfl _ rfl x hxo.1 rfl zero16 rfl (Blk.new wo zero16) ?_; intro w4 hB4 hg4; have L4 : Below wo.heap.size wo w4 := ((Below.refl _ wo).alloc (Nat.le_refl _) _).grown hg4 (by simp) (by rintro k ⟨⟩; exact Nat.le_refl _); have HB4 : Hid (Blk w4 wo.heap.size x) := hB4; have HL4 : Hid (Below wo.heap.size wo w4) := L4; clear hB4 hg4 L4) | (refine wpList_load_id rfl (.tmp 12) rfl _ rfl x hxo.1 HB4.out ?_) | (refine wpList_bn rfl (.tmp 23) rfl x hxo.1 rfl ?_) | (refine wpList_store_nb rfl (.tmp 13) (.tmp 24) rfl _ rfl 0 0 x hxo rfl 0 0 zero16 zero16_ok (NB.new w4 0 0 zero16) ?_; intro w5 hB5 hg5; have L5 : Below w4.heap.size w4 w5 := ((Below.refl _ w4).alloc (Nat.le_refl _) _).grown hg5 (by simp) (by rintro k ⟨⟩; exact Nat.le_refl _); have HN5 : Hid (NB w5 w4.heap.size 0 0 x) := hB5; have HB5 : Hid (Blk w5 wo.heap.size x) := HB4.out.later L5; have HL5 : Hid (Below wo.heap.size wo w5) := HL4.out.trans (L5.mono HL4.out.size); have HP5 : Hid (wo.heap.size < w4.heap.size) := HB4.out.lt; clear hB5 hg5 L5))
      · rename after = true => haf
        have HAF : Hid (after = true) := haf
        clear haf
        obtain ⟨m0, m1, m2, m3, m4, m5, m6, m7, m8, m9, m10, m11, m12, m13, m14, m15, hmm⟩ := list16 me hm.1
        obtain ⟨x0, x1, x2, x3, x4, x5, x6, x7, x8, x9, x10, x11, x12, x13, x14, x15, hxx⟩ := list16 x hxo.1
        have hMe : w5.rangeAt N 0 (cellsId [m0, m1, m2, m3, m4, m5, m6, m7, m8, m9, m10, m11, m12, m13, m14, m15]) := by rw [← hmm]; exact (HN.out.later (HH.out.2.2.trans (HL5.out.mono HH.out.2.2.size))).me
        have hXb : w5.rangeAt wo.heap.size 0 (cellsId [x0, x1, x2, x3, x4, x5, x6, x7, x8, x9, x10, x11, x12, x13, x14, x15]) := by rw [← hxx]; exact HB5.out.range
        have c0 : w5.cell? ⟨N, 0, none⟩ = some (.int .u8 m0) := by have := hMe 0 _ rfl; rw [Nat.zero_add] at this; exact this
        have c1 : w5.cell? ⟨N, 1, none⟩ = some (.int .u8 m1) := by have := hMe 1 _ rfl; rw [Nat.zero_add] at this; exact this
        have c2 : w5.cell? ⟨N, 2, none⟩ = some (.int .u8 m2) := by have := hMe 2 _ rfl; rw [Nat.zero_add] at this; exact this
        have c3 : w5.cell? ⟨N, 3, none⟩ = some (.int .u8 m3) := by have := hMe 3 _ rfl; rw [Nat.zero_add] at this; exact this
        have c4 : w5.cell? ⟨N, 4, none⟩ = some (.int .u8 m4) := by have := hMe 4 _ rfl; rw [Nat.zero_add] at this; exact this
        have c5 : w5.cell? ⟨N, 5, none⟩ = some (.int .u8 m5) := by have := hMe 5 _ rfl; rw [Nat.zero_add] at this; exact this
        have c6 : w5.cell? ⟨N, 6, none⟩ = some (.int .u8 m6) := by have := hMe 6 _ rfl; rw [Nat.zero_add] at this; exact this
        have c7 : w5.cell? ⟨N, 7, none⟩ = some (.int .u8 m7) := by have := hMe 7 _ rfl; rw [Nat.zero_add] at this; exact this
        have c8 : w5.cell? ⟨N, 8, none⟩ = some (.int .u8 m8) := by have := hMe 8 _ rfl; rw [Nat.zero_add] at this; exact this
        have c9 : w5.cell? ⟨N, 9, none⟩ = some (.int .u8 m9) := by have := hMe 9 _ rfl; rw [Nat.zero_add] at this; exact this
        have c10 : w5.cell? ⟨N, 10, none⟩ = some (.int .u8 m10) := by have := hMe 10 _ rfl; rw [Nat.zero_add] at this; exact this
        have c11 : w5.cell? ⟨N, 11, none⟩ = some (.int .u8 m11) := by have := hMe 11 _ rfl; rw [Nat.zero_add] at this; exact this
        have c12 : w5.cell? ⟨N, 12, none⟩ = some (.int .u8 m12) := by have := hMe 12 _ rfl; rw [Nat.zero_add] at this; exact this
        have c13 : w5.cell? ⟨N, 13, none⟩ = some (.int .u8 m13) := by have := hMe 13 _ rfl; rw [Nat.zero_add] at this; exact this
        have c14 : w5.cell? ⟨N, 14, none⟩ = some (.int .u8 m14) := by have := hMe 14 _ rfl; rw [Nat.zero_add] at this; exact this
        have c15 : w5.cell? ⟨N, 15, none⟩ = some (.int .u8 m15) := by have := hMe 15 _ rfl; rw [Nat.zero_add] at this; exact this
        have e0 : w5.cell? ⟨wo.heap.size, 0, none⟩ = some (.int .u8 x0) := by have := hXb 0 _ rfl; rw [Nat.zero_add] at this; exact this
        have e1 : w5.cell? ⟨wo.heap.size, 1, none⟩ = some (.int .u8 x1) := by have := hXb 1 _ rfl; rw [Nat.zero_add] at this; exact this
        have e2 : w5.cell? ⟨wo.heap.size, 2, none⟩ = some (.int .u8 x2) := by have := hXb 2 _ rfl; rw [Nat.zero_add] at this; exact this
        have e3 : w5.cell? ⟨wo.heap.size, 3, none⟩ = some (.int .u8 x3) := by have := hXb 3 _ rfl; rw [Nat.zero_add] at this; exact this
        have e4 : w5.cell? ⟨wo.heap.size, 4, none⟩ = some (.int .u8 x4) := by have := hXb 4 _ rfl; rw [Nat.zero_add] at this; exact this
        have e5 : w5.cell? ⟨wo.heap.size, 5, none⟩ = some (.int .u8 x5) := by have := hXb 5 _ rfl; rw [Nat.zero_add] at this; exact this
        have e6 : w5.cell? ⟨wo.heap.size, 6, none⟩ = some (.int .u8 x6) := by have := hXb 6 _ rfl; rw [Nat.zero_add] at this; exact this
        have e7 : w5.cell? ⟨wo.heap.size, 7, none⟩ = some (.int .u8 x7) := by have := hXb 7 _ rfl; rw [Nat.zero_add] at this; exact this
        have e8 : w5.cell? ⟨wo.heap.size, 8, none⟩ = some (.int .u8 x8) := by have := hXb 8 _ rfl; rw [Nat.zero_add] at this; exact this
        have e9 : w5.cell? ⟨wo.heap.size, 9, none⟩ = some (.int .u8 x9) := by have := hXb 9 _ rfl; rw [Nat.zero_add] at this; exact this
        have e10 : w5.cell? ⟨wo.heap.size, 10, none⟩ = some (.int .u8 x10) := by have := hXb 10 _ rfl; rw [Nat.zero_add] at this; exact this
        have e11 : w5.cell? ⟨wo.heap.size, 11, none⟩ = some (.int .u8 x11) := by have := hXb 11 _ rfl; rw [Nat.zero_add] at this; exact this
        have e12 : w5.cell? ⟨wo.heap.size, 12, none⟩ = some (.int .u8 x12) := by have := hXb 12 _ rfl; rw [Nat.zero_add] at this; exact this
        have e13 : w5.cell? ⟨wo.heap.size, 13, none⟩ = some (.int .u8 x13) := by have := hXb 13 _ rfl; rw [Nat.zero_add] at this; exact this
        have e14 : w5.cell? ⟨wo.heap.size, 14, none⟩ = some (.int .u8 x14) := by have := hXb 14 _ rfl; rw [Nat.zero_add] at this; exact this
        have e15 : w5.cell? ⟨wo.heap.size, 15, none⟩ = some (.int .u8 x15) := by have := hXb 15 _ rfl; rw [Nat.zero_add] at this; exact this
        have HCA : Hid (Calls Yba.prog 26 #[.agg #[.int .u8 m0, .int .u8 m1, .int .u8 m2, .int .u8 m3, .int .u8 m4, .int .u8 m5, .int .u8 m6, .int .u8 m7, .int .u8 m8, .int .u8 m9, .int .u8 m10, .int .u8 m11, .int .u8 m12, .int .u8 m13, .int .u8 m14, .int .u8 m15], .agg #[.int .u8 x0, .int .u8 x1, .int .u8 x2, .int .u8 x3, .int .u8 x4, .int .u8 x5, .int .u8 x6, .int .u8 x7, .int .u8 x8, .int .u8 x9, .int .u8 x10, .int .u8 x11, .int .u8 x12, .int .u8 x13, .int .u8 x14, .int .u8 x15]] w5.drew fun e w' => e = .returned (.tuple #[.int .u64 (gapHi me x), .int .u64 (gapLo me x)]) ∧ Below w5.heap.size w5 w') := by
          have := gap_at w5 me x hm hxo w5.drew (Below.refl _ w5).drew
          rw [hmm, hxx] at this
          rw [hmm, hxx]
          exact this
        have hfr : ∀ w', Below w5.heap.size w5 w' → NB w' w4.heap.size 0 0 x := fun w' h => HN5.out.later h
        have HFR : Hid (∀ w', Below w5.heap.size w5 w' → NB w' w4.heap.size 0 0 x) := hfr
        clear hMe hXb hmm hxx hfr
        go_region_law ((refine step_gap rfl (.tmp 30) (.tmp 31) _ rfl (.agg #[.int .u8 m0, .int .u8 m1, .int .u8 m2, .int .u8 m3, .int .u8 m4, .int .u8 m5, .int .u8 m6, .int .u8 m7, .int .u8 m8, .int .u8 m9, .int .u8 m10, .int .u8 m11, .int .u8 m12, .int .u8 m13, .int .u8 m14, .int .u8 m15]) (.agg #[.int .u8 x0, .int .u8 x1, .int .u8 x2, .int .u8 x3, .int .u8 x4, .int .u8 x5, .int .u8 x6, .int .u8 x7, .int .u8 x8, .int .u8 x9, .int .u8 x10, .int .u8 x11, .int .u8 x12, .int .u8 x13, .int .u8 x14, .int .u8 x15]) (.tuple #[.int .u64 (gapHi me x), .int .u64 (gapLo me x)]) rfl rfl (fun w' => Below w5.heap.size w5 w') HCA.out ?_; intro w6 hb6; have n0 := (HFR.out w6 hb6).c0; have n1 := (HFR.out w6 hb6).c1; have f0 : w6.frozen? ⟨w4.heap.size, 0, none⟩ = false := frozen_of_row w6 _ 0 _ 85 (HFR.out w6 hb6); have f1 : w6.frozen? ⟨w4.heap.size, 1, none⟩ = false := frozen_of_row w6 _ 1 _ 85 (HFR.out w6 hb6); have HB6 : Hid (Below w5.heap.size w5 w6) := hb6; clear hb6))
        all_goals
          clear c0 e0 c1 e1 c2 e2 c3 e3 c4 e4 c5 e5 c6 e6 c7 e7 c8 e8 c9 e9 c10 e10 c11 e11 c12 e12 c13 e13 c14 e14 c15 e15 n0 n1 f0 f1 HCA HFR
          have hgh : gh me after x = gapHi me x := by rw [HAF.out]; rfl
          have hgl : gl me after x = gapLo me x := by rw [HAF.out]; rfl
          have L6 : Below wo.heap.size wo w6 := HL5.out.trans (HB6.out.mono HL5.out.size)
          have HN7 : Hid (NB ((w6.setCell ⟨w4.heap.size, 0, none⟩ (.int .u64 (gapHi me x))).setCell ⟨w4.heap.size, 1, none⟩ (.int .u64 (gapLo me x))) w4.heap.size (gh me after x) (gl me after x) x) := by
            show NB _ _ _ _ _
            rw [hgh, hgl]
            exact (HN5.out.later HB6.out).set2 _ _
          have HL7 : Hid (Below wo.heap.size wo ((w6.setCell ⟨w4.heap.size, 0, none⟩ (.int .u64 (gapHi me x))).setCell ⟨w4.heap.size, 1, none⟩ (.int .u64 (gapLo me x)))) := (L6.setCell HL4.out.size _).setCell HL4.out.size _
          have HB7 : Hid (Blk ((w6.setCell ⟨w4.heap.size, 0, none⟩ (.int .u64 (gapHi me x))).setCell ⟨w4.heap.size, 1, none⟩ (.int .u64 (gapLo me x))) wo.heap.size x) := by
            have h1 := (HB5.out.later HB6.out).kept (grownBy_setCell w6 w4.heap.size 0 (.int .u64 (gapHi me x))) (by have := HP5.out; simp; omega)
            exact h1.kept (grownBy_setCell _ w4.heap.size 1 (.int .u64 (gapLo me x))) (by have := HP5.out; simp; omega)
          clear hgh hgl L6
          go_wp2
          generalize ((w6.setCell ⟨w4.heap.size, 0, none⟩ (.int .u64 (gapHi me x))).setCell ⟨w4.heap.size, 1, none⟩ (.int .u64 (gapLo me x))) = w7 at *
          clear HB6 HN5 HB5 HL5
          have HO7 : Hid (OB w7 w.heap.size me after l) := HH.out.2.1.later HL7.out
          go_loopw [14] (fun u wr => ∃ i : Nat, u = .int .i64 i ∧ i ≤ kp ∧ Hid (Below w7.heap.size w7 wr ∧ ∀ (j' : Nat) x', l[j']? = some x' → i ≤ j' → kd me after x < kd me after x')) (fun u wr => (intOf u).toNat)
          case atStart => exact ⟨kp, rfl, Nat.le_refl _, Below.refl _ _, fun j' x' hj h => by have := (List.getElem?_eq_some_iff.1 hj).1; have := HKP.out; omega⟩
          case round =>
            obtain ⟨i, rfl, hik, HI2⟩ := hrel
            obtain ⟨w8, hw8⟩ : ∃ w8, w8 = wr := ⟨_, rfl⟩
            subst hw8
            have HNb : Hid (NB w8 w4.heap.size (gh me after x) (gl me after x) x) := HN7.out.later HI2.out.1
            have HBb : Hid (Blk w8 wo.heap.size x) := HB7.out.later HI2.out.1
            have HOb : Hid (OB w8 w.heap.size me after l) := HO7.out.later HI2.out.1
            have HLb : Hid (Below wo.heap.size wo w8) := HL7.out.trans (HI2.out.1.mono HL7.out.size)
            have hNE : Nonempty (Later w8) := ⟨⟨w8, Below.refl _ _⟩⟩
            have H1 : Hid (∀ w', (∃ q : Later w8, w' = q.w) → w'.rangeAt w4.heap.size 0 (cellsN (gh me after x) (gl me after x) x)) := by rintro w' ⟨q, rfl⟩; exact (HNb.out.later q.h).range
            by_cases hi0 : 0 < i
            · have hi0' : (0 : Int) < (i : Int) := by omega
              obtain ⟨y, hy⟩ : ∃ y, l[i - 1]? = some y := ⟨_, List.getElem?_eq_getElem (by have := HKP.out; omega)⟩
              have hyo := hlo.at hy
              have H2 : Hid (∀ w', (∃ q : Later w8, w' = q.w) → w'.rangeAt w.heap.size ((i - 1) * 18) (cellsN (gh me after y) (gl me after y) y)) := by rintro w' ⟨q, rfl⟩; exact (HOb.out.later q.h).range hlo hy
              have HY : Hid (l[i - 1]? = some y) := hy
              clear hy
              by_cases hk : kd me after x < kd me after y
              · have hr : decide (kd me after x < kd me after y) = true := decide_eq_true hk
                have HCB : Hid (∀ q : Later w8, Calls Yba.prog 45 #[.agg (cellsN (gh me after x) (gl me after x) x).toArray, .agg (cellsN (gh me after y) (gl me after y) y).toArray] q.w fun e w' => e = .returned (.bool true) ∧ Below w8.heap.size w8 w') := fun q => before_at w8 me after x y true hr q.w q.h
                clear hr
                go_wp2
                refine wp_region_later (by kernel_rfl) (by kernel_rfl) ?_
                iterate 3 (go_big_quiet_step (fail))
                refine qload_nb rfl (.tmp 13) rfl _ _ rfl (gh me after x) (gl me after x) x hxo H1.out ?_
                simp only [Act.put, List.setIfInBounds_toArray, List.set_cons_succ, List.set_cons_zero]
                iterate 3 (go_big_quiet_step (fail))
                refine qload_nb rfl (.tmp 55) rfl _ _ rfl (gh me after y) (gl me after y) y hyo H2.out ?_
                simp only [Act.put, List.setIfInBounds_toArray, List.set_cons_succ, List.set_cons_zero]
                go_big_quiet_want
                go_big_quiet_op
                refine ⟨_, fun q => calls_later (HCB.out q), ?_⟩
                go_big_quiet_on
                go_big_quiet_step (fail)
                refine wpQuiet_nil ?_
                intro w9 hw9
                obtain ⟨⟨_, hb9⟩, rfl⟩ := hw9
                have HB9 : Hid (Below w8.heap.size w8 w9) := hb9
                clear hb9
                go_wp2
                go_roundw
                case rel =>
                  refine ⟨i - 1, by simp; omega, by omega, HI2.out.1.trans (HB9.out.mono HI2.out.1.size), fun j' x' hj h => ?_⟩
                  by_cases e : j' = i - 1
                  · subst e
                    have e2 := HY.out
                    rw [e2] at hj
                    cases hj
                    exact hk
                  · exact HI2.out.2 j' x' hj (by omega)
                case measure => simp [intOf]; omega
              · have hr : decide (kd me after x < kd me after y) = false := decide_eq_false hk
                have HCB : Hid (∀ q : Later w8, Calls Yba.prog 45 #[.agg (cellsN (gh me after x) (gl me after x) x).toArray, .agg (cellsN (gh me after y) (gl me after y) y).toArray] q.w fun e w' => e = .returned (.bool false) ∧ Below w8.heap.size w8 w') := fun q => before_at w8 me after x y false hr q.w q.h
                clear hr
                go_wp2
                refine wp_region_later (by kernel_rfl) (by kernel_rfl) ?_
                iterate 3 (go_big_quiet_step (fail))
                refine qload_nb rfl (.tmp 13) rfl _ _ rfl (gh me after x) (gl me after x) x hxo H1.out ?_
                simp only [Act.put, List.setIfInBounds_toArray, List.set_cons_succ, List.set_cons_zero]
                iterate 3 (go_big_quiet_step (fail))
                refine qload_nb rfl (.tmp 55) rfl _ _ rfl (gh me after y) (gl me after y) y hyo H2.out ?_
                simp only [Act.put, List.setIfInBounds_toArray, List.set_cons_succ, List.set_cons_zero]
                go_big_quiet_want
                go_big_quiet_op
                refine ⟨_, fun q => calls_later (HCB.out q), ?_⟩
                go_big_quiet_on
                go_big_quiet_step (fail)
                refine wpQuiet_nil ?_
                intro w9 hw9
                obtain ⟨⟨_, hb9⟩, rfl⟩ := hw9
                have HB9 : Hid (Below w8.heap.size w8 w9) := hb9
                clear hb9
                go_wp2
                have HNc : Hid (NB w9 w4.heap.size (gh me after x) (gl me after x) x) := HNb.out.later HB9.out
                have HBc : Hid (Blk w9 wo.heap.size x) := HBb.out.later HB9.out
                have HOc : Hid (OB w9 w.heap.size me after l) := HOb.out.later HB9.out
                have HLc : Hid (Below wo.heap.size wo w9) := HLb.out.trans (HB9.out.mono HLb.out.size)
                have HTk : Hid (X.take (j + 1) = X.take j ++ [x]) := by show _ = _; rw [List.take_add_one, HX.out]; rfl
                have HIJ : Hid (∀ z ∈ X.take j, kd me after z = kd me after x → z = x) := fun z hz he => kd_inj hm (hX z (List.mem_of_mem_take hz)) hxo he
                have HLO : Hid (∀ (j' : Nat) z, l[j']? = some z → j' < i → kd me after z ≤ kd me after x) := fun j' z hj h => by
                  by_cases e : j' = i - 1
                  · subst e
                    have e2 := HY.out
                    rw [e2] at hj
                    cases hj
                    omega
                  · have hil : i - 1 < l.length := by have := HKP.out; omega
                    have h1 := List.pairwise_iff_getElem.1 HH.out.1.srt j' (i - 1) (by omega) hil (by omega)
                    have e2 := HY.out
                    rw [List.getElem?_eq_getElem (by omega)] at hj e2
                    rw [Option.some.inj hj, Option.some.inj e2] at h1
                    omega
                by_cases hi3 : i = 3
                · have hi3' : (i : Int) = 3 := by omega
                  have hi3b : ((i : Int) == 3) = true := by simp; omega
                  refine wp_region_quiet_lit (by kernel_rfl) (by kernel_rfl) ?_
                  iterate 15 (go_big_quiet_step (fail))
                  refine wpQuiet_nil ?_
                  intro wz hwz
                  obtain ⟨nq2, rfl⟩ := hwz
                  go_wp2
                  go_roundw
                  case rel =>
                    have hns : Near (kd me after) (X.take (j + 1)) (insAt l x i) := by rw [HTk.out]; exact near_step (kd me after) HH.out.1 x i (by have := HKP.out; omega) HLO.out HI2.out.2 HIJ.out
                    have he : insAt l x i = l := by unfold insAt; rw [if_pos (.inl hi3)]
                    rw [he] at hns
                    refine ⟨j + 1, l, by rw [HKP.out], by simp, by omega, by have := HKP.out; omega, hns, ?_, ?_⟩
                    · exact (HOc.out.later (below_drewN (Below.refl _ w9) _))
                    · exact HH.out.2.2.trans ((below_drewN HLc.out _).mono HH.out.2.2.size)
                  case measure => simp [intOf]; omega
                · have hi3' : ¬ (i : Int) = 3 := by omega
                  have hi3b : ((i : Int) == 3) = false := by simp; omega
                  have H3 : Hid (∀ w', (∃ q, w' = w9.drewN q) → w'.rangeAt w.heap.size ((i - 1) * 18 + 2) (cellsId y)) := by rintro w' ⟨q, rfl⟩; exact HOc.out.id hlo HY.out
                  have H4 : Hid (∀ w', (∃ q, w' = w9.drewN q) → w'.rangeAt wo.heap.size 0 (cellsId x)) := by rintro w' ⟨q, rfl⟩; exact HBc.out.range
                  have ng := noGuard23
                  by_cases hyx : y = x
                  · have eq1 : ∀ w, (Op.equalIn 10000 23 (.agg (cellsId y).toArray) (.agg (cellsId x).toArray)).run Yba.prog w = .ok true w := fun w => by rw [run_eql_id y x hyo.1 hxo.1 w, decide_eq_true hyx]
                    have HYX : Hid (y = x) := hyx
                    clear hyx
                    refine wp_region_quiet_lit (by kernel_rfl) (by kernel_rfl) ?_
                    iterate 10 (go_big_quiet_step (fail))
                    refine qload_id rfl (.tmp 70) rfl _ _ rfl y hyo.1 H3.out ?_
                    simp only [Act.put, List.setIfInBounds_toArray, List.set_cons_succ, List.set_cons_zero]
                    refine qload_id rfl (.tmp 12) rfl _ _ rfl x hxo.1 H4.out ?_
                    simp only [Act.put, List.setIfInBounds_toArray, List.set_cons_succ, List.set_cons_zero]
                    iterate 3 (go_big_quiet_step (fail))
                    refine wpQuiet_nil ?_
                    intro wz hwz
                    obtain ⟨nq2, rfl⟩ := hwz
                    go_wp2
                    go_roundw
                    case rel =>
                      have hns : Near (kd me after) (X.take (j + 1)) (insAt l x i) := by rw [HTk.out]; exact near_step (kd me after) HH.out.1 x i (by have := HKP.out; omega) HLO.out HI2.out.2 HIJ.out
                      have he : insAt l x i = l := by unfold insAt; rw [if_pos (.inr ⟨hi0, by rw [HY.out, HYX.out]⟩)]
                      rw [he] at hns
                      refine ⟨j + 1, l, by rw [HKP.out], by simp, by omega, by have := HKP.out; omega, hns, ?_, ?_⟩
                      · exact (HOc.out.later (below_drewN (Below.refl _ w9) _))
                      · exact HH.out.2.2.trans ((below_drewN HLc.out _).mono HH.out.2.2.size)
                    case measure => simp [intOf]; omega
                  · have eq1 : ∀ w, (Op.equalIn 10000 23 (.agg (cellsId y).toArray) (.agg (cellsId x).toArray)).run Yba.prog w = .ok false w := fun w => by rw [run_eql_id y x hyo.1 hxo.1 w, decide_eq_false hyx]
                    have HYX : Hid (¬ y = x) := hyx
                    clear hyx
                    refine wp_region_quiet_lit (by kernel_rfl) (by kernel_rfl) ?_
                    iterate 10 (go_big_quiet_step (fail))
                    refine qload_id rfl (.tmp 70) rfl _ _ rfl y hyo.1 H3.out ?_
                    simp only [Act.put, List.setIfInBounds_toArray, List.set_cons_succ, List.set_cons_zero]
                    refine qload_id rfl (.tmp 12) rfl _ _ rfl x hxo.1 H4.out ?_
                    simp only [Act.put, List.setIfInBounds_toArray, List.set_cons_succ, List.set_cons_zero]
                    iterate 3 (go_big_quiet_step (fail))
                    refine wpQuiet_nil ?_
                    intro wz hwz
                    obtain ⟨nq2, rfl⟩ := hwz
                    go_wp2
                    obtain ⟨cs, hcs1, hcs2, hcs3⟩ := HOc.out
                    have HCL : Hid (cs.length = 72) := hcs2
                    have HCT : Hid (cs.take (l.length * 18) = flatG (ck me after) l) := hcs3
                    have HCR : Hid (w9.heap[w.heap.size]? = some (.cells cs.toArray 86 (0, 0))) := hcs1
                    have hokd : IsOk (l.drop i) := fun y hy => hlo y (List.mem_of_mem_drop hy)
                    obtain ⟨D, hD⟩ : ∃ D, D = flatG (ck me after) (l.drop i) := ⟨_, rfl⟩
                    have HDl : Hid (D.length = (kp - i) * 18) := by show _ = _; rw [hD, flatG_len _ 18 (ck_len hokd), List.length_drop, HKP.out]
                    have HD1 : Hid (∀ v ∈ D, v.oneCell' = true) := by show ∀ v ∈ D, _; rw [hD]; exact flatG_one _ (fun x => cellsN_one _ _ x) _
                    have HDs : Hid (∀ t u, D[t]? = some u → w9.cell? ((⟨w.heap.size, i * 18, none⟩ : Addr).add t) = some u) := fun t u ht => by
                      rw [Addr.add_mid, cell_of_row w9 w.heap.size (i * 18 + t) _ 86 (0, 0) HCR.out]
                      have h2 : (flatG (ck me after) l)[i * 18 + t]? = some u := by rw [hD, ← flatG_drop _ 18 (ck_len hlo) i, List.getElem?_drop] at ht; exact ht
                      rw [← HCT.out, List.getElem?_take] at h2
                      split at h2
                      · simpa using h2
                      · cases h2
                    obtain ⟨cs2, hcs2'⟩ : ∃ cs2, cs2 = splice cs ((i + 1) * 18) D := ⟨_, rfl⟩
                    have HCS2 : Hid (cs2 = splice cs ((i + 1) * 18) (flatG (ck me after) (l.drop i))) := by show _ = _; rw [hcs2', hD]
                    have HF1 : Hid ((i + 1) * 18 + D.length ≤ cs.length) := by show _ ≤ _; rw [HDl.out, HCL.out]; omega
                    have HF2 : Hid (i * 18 + (cellsN (gh me after x) (gl me after x) x).length ≤ cs2.length) := by
                      show _ ≤ _
                      rw [hcs2', length_splice _ _ _ HF1.out, cellsN_len _ _ hxo, HCL.out]
                      omega
                    have HN1 : Hid (D.length = Nat.min (kp - i) (4 - (i + 1)) * 18) := by
                      show _ = _
                      rw [HDl.out, show Nat.min (kp - i) (4 - (i + 1)) = kp - i by simp only [Nat.min_def]; split <;> omega]
                    have HC2 : Hid (cs2 = splice cs ((i + 1) * 18) D) := hcs2'
                    clear hcs1 hcs2 hcs3 hD hcs2' hokd
                    have hik' : (i : Int) ≤ (kp : Int) := by omega
                    have hi4 : ¬ (4 = i) := by omega
                    have hi41 : ¬ (4 = i + 1) := by omega
                    have hi41' : (i : Int) + 1 ≤ 4 := by omega
                    have hkp4 : (kp : Int) ≤ 4 := by omega
                    have hw1 : IntKind.i64.wrap ((i : Int) + 1) = (i : Int) + 1 := by rw [IntKind.wrap_i64]; omega
                    have htn : ((i : Int) + 1).toNat = i + 1 := by omega
                    have hb1 : (0 : Int) ≤ (i : Int) + 1 := by omega
                    go_region_law ((refine step_copy_k rfl (.tmp 78) (.tmp 81) 88 88 rfl 18 85 Yba.underlying88 info85s w.heap.size ((i + 1) * 18) (4 - (i + 1)) (4 - (i + 1)) ⟨w.heap.size, i * 18, none⟩ (kp - i) (4 - i) (by simp [Act.eval, Act.put]) (by simp [Act.eval, Act.put]) cs 86 HCR.out D HN1.out HDs.out HF1.out HD1.out ?_; intro wa hga hgra; have hg2 : Hid (wa.heap[w.heap.size]? = some (.cells cs2.toArray 86 (0, 0))) := (by rw [HC2.out]; exact hga); have HGR : Hid (w9.grownBy wa (some w.heap.size)) := ⟨hgra.os, hgra.tape, hgra.output, hgra.size, hgra.block⟩; clear hga hgra))
                    have HNe : Hid (wa.rangeAt w4.heap.size 0 (cellsN (gh me after x) (gl me after x) x)) := by
                      have h1 : wa.heap[w4.heap.size]? = w9.heap[w4.heap.size]? := HGR.out.block _ (Array.getElem?_eq_some_iff.1 HNc.out).1 (by have := HOc.out; have := HH.out.2.2.size; have := HL4.out.size; have := HP5.out; simp; omega)
                      have h2 : NB wa w4.heap.size (gh me after x) (gl me after x) x := by unfold NB; rw [h1]; exact HNc.out
                      exact h2.range
                    by_cases hkp3 : kp = 3
                    · have hk3 : (kp : Int) = 3 := by omega
                      go_wp2_with (first | (refine wpList_load_mid rfl 85 (.tmp 13) rfl _ _ rfl (cellsN (gh me after x) (gl me after x) x) _ HNe.out Yba.underlying85 rfl (by rw [info85, cellsN_len _ _ hxo]) ?_) | (refine wpList_store_splice rfl 85 (.tmp 85) (.tmp 84) rfl w.heap.size (i * 18) (cellsN (gh me after x) (gl me after x) x) cs2 rfl rfl 86 hg2.out HF2.out (by rw [info85, cellsN_len _ _ hxo]) (cellsN_one _ _ x) ?_; intro wb hgb hgrb; have HGB : Hid _ := hgb; have HRB : Hid (w9.grownBy wb (some w.heap.size)) := grownBy_trans HGR.out hgrb; clear hgb hgrb))
                      go_roundw
                      case rel =>
                        have hlen3 : ((l.take i ++ x :: l.drop i).take 3).length = 3 := by rw [List.length_take]; have := HKP.out; simp; omega
                        have hns : Near (kd me after) (X.take (j + 1)) (insAt l x i) := by rw [HTk.out]; exact near_step (kd me after) HH.out.1 x i (by have := HKP.out; omega) HLO.out HI2.out.2 HIJ.out
                        have he : insAt l x i = (l.take i ++ x :: l.drop i).take 3 := by unfold insAt; rw [if_neg (by rintro (h | ⟨_, h⟩); exact hi3 h; rw [HY.out] at h; exact HYX.out (Option.some.inj h))]
                        rw [he] at hns
                        refine ⟨j + 1, (l.take i ++ x :: l.drop i).take 3, by rw [hlen3]; rfl, by simp, by omega, by rw [hlen3]; omega, hns, ?_, ?_⟩
                        · refine OB.ins hxo hlo (by have := HKP.out; omega) (by have := HKP.out; omega) HCL.out HCT.out ?_ (by omega)
                          have h1 := HGB.out
                          rw [HCS2.out] at h1
                          exact h1
                        · exact HH.out.2.2.trans ((HLc.out.mono HH.out.2.2.size).grown HRB.out (Nat.le_trans HH.out.2.2.size HLc.out.size) (by rintro k ⟨⟩; exact Nat.le_refl _)) 
                      case measure => simp [intOf]; omega
                    · have hk3 : (kp : Int) + 1 ≤ 3 := by omega
                      go_wp2_with (first | (refine wpList_load_mid rfl 85 (.tmp 13) rfl _ _ rfl (cellsN (gh me after x) (gl me after x) x) _ HNe.out Yba.underlying85 rfl (by rw [info85, cellsN_len _ _ hxo]) ?_) | (refine wpList_store_splice rfl 85 (.tmp 85) (.tmp 84) rfl w.heap.size (i * 18) (cellsN (gh me after x) (gl me after x) x) cs2 rfl rfl 86 hg2.out HF2.out (by rw [info85, cellsN_len _ _ hxo]) (cellsN_one _ _ x) ?_; intro wb hgb hgrb; have HGB : Hid _ := hgb; have HRB : Hid (w9.grownBy wb (some w.heap.size)) := grownBy_trans HGR.out hgrb; clear hgb hgrb))
                      go_roundw
                      case rel =>
                        have hlen3 : ((l.take i ++ x :: l.drop i).take 3).length = kp + 1 := by rw [List.length_take]; have := HKP.out; simp; omega
                        have hns : Near (kd me after) (X.take (j + 1)) (insAt l x i) := by rw [HTk.out]; exact near_step (kd me after) HH.out.1 x i (by have := HKP.out; omega) HLO.out HI2.out.2 HIJ.out
                        have he : insAt l x i = (l.take i ++ x :: l.drop i).take 3 := by unfold insAt; rw [if_neg (by rintro (h | ⟨_, h⟩); exact hi3 h; rw [HY.out] at h; exact HYX.out (Option.some.inj h))]
                        rw [he] at hns
                        refine ⟨j + 1, (l.take i ++ x :: l.drop i).take 3, by rw [hlen3]; rfl, by simp, by omega, by rw [hlen3]; omega, hns, ?_, ?_⟩
                        · refine OB.ins hxo hlo (by have := HKP.out; omega) (by have := HKP.out; omega) HCL.out HCT.out ?_ (by omega)
                          have h1 := HGB.out
                          rw [HCS2.out] at h1
                          exact h1
                        · exact HH.out.2.2.trans ((HLc.out.mono HH.out.2.2.size).grown HRB.out (Nat.le_trans HH.out.2.2.size HLc.out.size) (by rintro k ⟨⟩; exact Nat.le_refl _)) 
                      case measure => simp [intOf]; omega
            · have hi0' : ¬ (0 : Int) < (i : Int) := by omega
              go_wp2
              refine wp_region_later (by kernel_rfl) (by kernel_rfl) ?_
              iterate 10 (go_big_quiet_step (fail))
              refine wpQuiet_nil ?_
              intro w9 hw9
              obtain ⟨⟨_, hb9⟩, rfl⟩ := hw9
              have HB9 : Hid (Below w8.heap.size w8 w9) := hb9
              clear hb9
              go_wp2
              have HNc : Hid (NB w9 w4.heap.size (gh me after x) (gl me after x) x) := HNb.out.later HB9.out
              have HBc : Hid (Blk w9 wo.heap.size x) := HBb.out.later HB9.out
              have HOc : Hid (OB w9 w.heap.size me after l) := HOb.out.later HB9.out
              have HLc : Hid (Below wo.heap.size wo w9) := HLb.out.trans (HB9.out.mono HLb.out.size)
              have HTk : Hid (X.take (j + 1) = X.take j ++ [x]) := by show _ = _; rw [List.take_add_one, HX.out]; rfl
              have HIJ : Hid (∀ z ∈ X.take j, kd me after z = kd me after x → z = x) := fun z hz he => kd_inj hm (hX z (List.mem_of_mem_take hz)) hxo he
              have HLO : Hid (∀ (j' : Nat) z, l[j']? = some z → j' < i → kd me after z ≤ kd me after x) := fun j' z hj h => by omega
              have hi3' : ¬ (i : Int) = 3 := by omega
              have hi3b : ((i : Int) == 3) = false := by simp; omega
              refine wp_region_quiet_lit (by kernel_rfl) (by kernel_rfl) ?_
              iterate 15 (go_big_quiet_step (fail))
              refine wpQuiet_nil ?_
              intro wz hwz
              obtain ⟨nq2, rfl⟩ := hwz
              go_wp2
              obtain ⟨cs, hcs1, hcs2, hcs3⟩ := HOc.out
              have HCL : Hid (cs.length = 72) := hcs2
              have HCT : Hid (cs.take (l.length * 18) = flatG (ck me after) l) := hcs3
              have HCR : Hid (w9.heap[w.heap.size]? = some (.cells cs.toArray 86 (0, 0))) := hcs1
              have hokd : IsOk (l.drop i) := fun y hy => hlo y (List.mem_of_mem_drop hy)
              obtain ⟨D, hD⟩ : ∃ D, D = flatG (ck me after) (l.drop i) := ⟨_, rfl⟩
              have HDl : Hid (D.length = (kp - i) * 18) := by show _ = _; rw [hD, flatG_len _ 18 (ck_len hokd), List.length_drop, HKP.out]
              have HD1 : Hid (∀ v ∈ D, v.oneCell' = true) := by show ∀ v ∈ D, _; rw [hD]; exact flatG_one _ (fun x => cellsN_one _ _ x) _
              have HDs : Hid (∀ t u, D[t]? = some u → w9.cell? ((⟨w.heap.size, i * 18, none⟩ : Addr).add t) = some u) := fun t u ht => by
                rw [Addr.add_mid, cell_of_row w9 w.heap.size (i * 18 + t) _ 86 (0, 0) HCR.out]
                have h2 : (flatG (ck me after) l)[i * 18 + t]? = some u := by rw [hD, ← flatG_drop _ 18 (ck_len hlo) i, List.getElem?_drop] at ht; exact ht
                rw [← HCT.out, List.getElem?_take] at h2
                split at h2
                · simpa using h2
                · cases h2
              obtain ⟨cs2, hcs2'⟩ : ∃ cs2, cs2 = splice cs ((i + 1) * 18) D := ⟨_, rfl⟩
              have HCS2 : Hid (cs2 = splice cs ((i + 1) * 18) (flatG (ck me after) (l.drop i))) := by show _ = _; rw [hcs2', hD]
              have HF1 : Hid ((i + 1) * 18 + D.length ≤ cs.length) := by show _ ≤ _; rw [HDl.out, HCL.out]; omega
              have HF2 : Hid (i * 18 + (cellsN (gh me after x) (gl me after x) x).length ≤ cs2.length) := by
                show _ ≤ _
                rw [hcs2', length_splice _ _ _ HF1.out, cellsN_len _ _ hxo, HCL.out]
                omega
              have HN1 : Hid (D.length = Nat.min (kp - i) (4 - (i + 1)) * 18) := by
                show _ = _
                rw [HDl.out, show Nat.min (kp - i) (4 - (i + 1)) = kp - i by simp only [Nat.min_def]; split <;> omega]
              have HC2 : Hid (cs2 = splice cs ((i + 1) * 18) D) := hcs2'
              clear hcs1 hcs2 hcs3 hD hcs2' hokd
              have hik' : (i : Int) ≤ (kp : Int) := by omega
              have hi4 : ¬ (4 = i) := by omega
              have hi41 : ¬ (4 = i + 1) := by omega
              have hi41' : (i : Int) + 1 ≤ 4 := by omega
              have hkp4 : (kp : Int) ≤ 4 := by omega
              have hw1 : IntKind.i64.wrap ((i : Int) + 1) = (i : Int) + 1 := by rw [IntKind.wrap_i64]; omega
              have htn : ((i : Int) + 1).toNat = i + 1 := by omega
              have hb1 : (0 : Int) ≤ (i : Int) + 1 := by omega
              go_region_law ((refine step_copy_k rfl (.tmp 78) (.tmp 81) 88 88 rfl 18 85 Yba.underlying88 info85s w.heap.size ((i + 1) * 18) (4 - (i + 1)) (4 - (i + 1)) ⟨w.heap.size, i * 18, none⟩ (kp - i) (4 - i) (by simp [Act.eval, Act.put]) (by simp [Act.eval, Act.put]) cs 86 HCR.out D HN1.out HDs.out HF1.out HD1.out ?_; intro wa hga hgra; have hg2 : Hid (wa.heap[w.heap.size]? = some (.cells cs2.toArray 86 (0, 0))) := (by rw [HC2.out]; exact hga); have HGR : Hid (w9.grownBy wa (some w.heap.size)) := ⟨hgra.os, hgra.tape, hgra.output, hgra.size, hgra.block⟩; clear hga hgra))
              have HNe : Hid (wa.rangeAt w4.heap.size 0 (cellsN (gh me after x) (gl me after x) x)) := by
                have h1 : wa.heap[w4.heap.size]? = w9.heap[w4.heap.size]? := HGR.out.block _ (Array.getElem?_eq_some_iff.1 HNc.out).1 (by have := HOc.out; have := HH.out.2.2.size; have := HL4.out.size; have := HP5.out; simp; omega)
                have h2 : NB wa w4.heap.size (gh me after x) (gl me after x) x := by unfold NB; rw [h1]; exact HNc.out
                exact h2.range
              by_cases hkp3 : kp = 3
              · have hk3 : (kp : Int) = 3 := by omega
                go_wp2_with (first | (refine wpList_load_mid rfl 85 (.tmp 13) rfl _ _ rfl (cellsN (gh me after x) (gl me after x) x) _ HNe.out Yba.underlying85 rfl (by rw [info85, cellsN_len _ _ hxo]) ?_) | (refine wpList_store_splice rfl 85 (.tmp 85) (.tmp 84) rfl w.heap.size (i * 18) (cellsN (gh me after x) (gl me after x) x) cs2 rfl rfl 86 hg2.out HF2.out (by rw [info85, cellsN_len _ _ hxo]) (cellsN_one _ _ x) ?_; intro wb hgb hgrb; have HGB : Hid _ := hgb; have HRB : Hid (w9.grownBy wb (some w.heap.size)) := grownBy_trans HGR.out hgrb; clear hgb hgrb))
                go_roundw
                case rel =>
                  have hlen3 : ((l.take i ++ x :: l.drop i).take 3).length = 3 := by rw [List.length_take]; have := HKP.out; simp; omega
                  have hns : Near (kd me after) (X.take (j + 1)) (insAt l x i) := by rw [HTk.out]; exact near_step (kd me after) HH.out.1 x i (by have := HKP.out; omega) HLO.out HI2.out.2 HIJ.out
                  have he : insAt l x i = (l.take i ++ x :: l.drop i).take 3 := by unfold insAt; rw [if_neg (by rintro (h | ⟨h, _⟩) <;> omega)]
                  rw [he] at hns
                  refine ⟨j + 1, (l.take i ++ x :: l.drop i).take 3, by rw [hlen3]; rfl, by simp, by omega, by rw [hlen3]; omega, hns, ?_, ?_⟩
                  · refine OB.ins hxo hlo (by have := HKP.out; omega) (by have := HKP.out; omega) HCL.out HCT.out ?_ (by omega)
                    have h1 := HGB.out
                    rw [HCS2.out] at h1
                    exact h1
                  · exact HH.out.2.2.trans ((HLc.out.mono HH.out.2.2.size).grown HRB.out (Nat.le_trans HH.out.2.2.size HLc.out.size) (by rintro k ⟨⟩; exact Nat.le_refl _)) 
                case measure => simp [intOf]; omega
              · have hk3 : (kp : Int) + 1 ≤ 3 := by omega
                go_wp2_with (first | (refine wpList_load_mid rfl 85 (.tmp 13) rfl _ _ rfl (cellsN (gh me after x) (gl me after x) x) _ HNe.out Yba.underlying85 rfl (by rw [info85, cellsN_len _ _ hxo]) ?_) | (refine wpList_store_splice rfl 85 (.tmp 85) (.tmp 84) rfl w.heap.size (i * 18) (cellsN (gh me after x) (gl me after x) x) cs2 rfl rfl 86 hg2.out HF2.out (by rw [info85, cellsN_len _ _ hxo]) (cellsN_one _ _ x) ?_; intro wb hgb hgrb; have HGB : Hid _ := hgb; have HRB : Hid (w9.grownBy wb (some w.heap.size)) := grownBy_trans HGR.out hgrb; clear hgb hgrb))
                go_roundw
                case rel =>
                  have hlen3 : ((l.take i ++ x :: l.drop i).take 3).length = kp + 1 := by rw [List.length_take]; have := HKP.out; simp; omega
                  have hns : Near (kd me after) (X.take (j + 1)) (insAt l x i) := by rw [HTk.out]; exact near_step (kd me after) HH.out.1 x i (by have := HKP.out; omega) HLO.out HI2.out.2 HIJ.out
                  have he : insAt l x i = (l.take i ++ x :: l.drop i).take 3 := by unfold insAt; rw [if_neg (by rintro (h | ⟨h, _⟩) <;> omega)]
                  rw [he] at hns
                  refine ⟨j + 1, (l.take i ++ x :: l.drop i).take 3, by rw [hlen3]; rfl, by simp, by omega, by rw [hlen3]; omega, hns, ?_, ?_⟩
                  · refine OB.ins hxo hlo (by have := HKP.out; omega) (by have := HKP.out; omega) HCL.out HCT.out ?_ (by omega)
                    have h1 := HGB.out
                    rw [HCS2.out] at h1
                    exact h1
                  · exact HH.out.2.2.trans ((HLc.out.mono HH.out.2.2.size).grown HRB.out (Nat.le_trans HH.out.2.2.size HLc.out.size) (by rintro k ⟨⟩; exact Nat.le_refl _)) 
                case measure => simp [intOf]; omega
      · rename after = false => haf
        have HAF : Hid (after = false) := haf
        clear haf
        exact absurd (HAFX.out.symm.trans HAF.out) (by decide)
    · skip
      have hlt' : ¬ (j : Int) < (nq : Int) := by omega
      have HNr : Hid (Near (kd me after) X l) := by
        have h1 := HH.out.1
        rw [List.take_of_length_le (by have := HNQ.out.1; omega)] at h1
        exact h1
      have HOB : Hid (OB wr w.heap.size me after l) := HH.out.2.1
      have HBE : Hid (Below w.heap.size w wr) := HH.out.2.2
      have hlo : IsOk l := fun y hy => hX y (HNr.out.sub y hy)
      have hgw : g < w.heap.size := (World.ownsRow.lt HI.out g rfl).2
      obtain ⟨i0, hi0, hz0, hz1, hz2⟩ := info_parts info23z
      obtain ⟨kp, hkp⟩ : ∃ kp, kp = l.length := ⟨_, rfl⟩
      have HKP : Hid (kp = l.length) := hkp
      rw [← hkp] at hl3 ⊢
      clear hkp HH
      have hk4 : (kp : Int) ≤ 4 := by omega
      obtain ⟨wo, hwo⟩ : ∃ wo, wo = wr := ⟨_, rfl⟩
      subst hwo
      go_wp2
      go_loopw [1, 93] (fun u t wr => ∃ k : Nat, u = .slice (some ⟨g, 0, none⟩) (n + k) 6 ∧ t = .int .i64 k ∧ k ≤ kp ∧ Hid (Ids wr B (.slice (some ⟨g, 0, none⟩) (n + k) 6) (L ++ l.take k) ∧ OB wr w.heap.size me after l ∧ w.grownBy wr (some g))) (fun u t wr => (kp - intOf t).toNat)
      case atStart =>
        refine ⟨0, rfl, rfl, Nat.zero_le _, ?_, HOB.out, grownBy_of_below HBE.out _⟩
        rw [List.take_zero, List.append_nil]
        exact HI.out.later HBE.out
      case round =>
        obtain ⟨k, rfl, rfl, hkk, HR⟩ := hrel
        by_cases hkl : k < kp
        · have hkl' : (k : Int) < (kp : Int) := by omega
          obtain ⟨y, hy⟩ : ∃ y, l[k]? = some y := ⟨_, List.getElem?_eq_getElem (by have := HKP.out; omega)⟩
          have hyo := hlo.at hy
          have LD : Hid (wr.rangeAt w.heap.size (k * 18) (cellsN (gh me after y) (gl me after y) y)) := HR.out.2.1.range hlo hy
          have HYk : Hid (l.take (k + 1) = l.take k ++ [y]) := by show _ = _; rw [List.take_add_one, hy]; rfl
          have HLn : Hid ((L ++ l.take k).length = n + k) := by
            show _ = _
            rw [List.length_append, List.length_take, ← HNL.out]
            have := HKP.out
            omega
          obtain ⟨LL, hLL⟩ : ∃ LL, LL = L ++ l.take k := ⟨_, rfl⟩
          rw [← hLL] at HR HLn
          have HLL : Hid (LL = L ++ l.take k) := hLL
          clear hy hLL
          go_wp2_with (first | (refine wpList_load_mid rfl 85 (.tmp 95) rfl _ _ rfl (cellsN (gh me after y) (gl me after y) y) _ LD.out Yba.underlying85 rfl (by rw [info85, cellsN_len _ _ hyo]) ?_) | (refine wpList_store_nb rfl (.tmp 16) (.tmp 96) rfl _ rfl (gh me after y) (gl me after y) y hyo rfl 0 0 zero16 zero16_ok (NB.new wr 0 0 zero16) ?_; intro w5 hB5 hg5; have L5 : Below wr.heap.size wr w5 := ((Below.refl _ wr).alloc (Nat.le_refl _) _).grown hg5 (by simp) (by rintro k ⟨⟩; exact Nat.le_refl _); have HRW : Hid (w5.rangeAt wr.heap.size 2 (cellsId y)) := hB5.id; have HL5 : Hid (Below wr.heap.size wr w5) := L5; clear hB5 hg5 L5) | (refine wpList_load_mid rfl 23 (.tmp 98) rfl _ _ rfl (cellsId y) _ HRW.out Yba.underlying23 rfl (by rw [info23]; simp [cellsId, hyo.1]) ?_) | (refine wpList_bs rfl (.tmp 99) rfl y hyo.1 rfl ?_) | (at_builtin; refine wpList_append_fits _ rfl (.tmp 97) (.tmp 100) 24 rfl B 23 i0 16 Yba.underlying24 hi0 hz1 g (n + k) 6 (flatI LL) rfl (by have h1 := World.ownsRow.alloc (HR.out.1.later HL5.out) (.cells (cellsId y).toArray 23); rw [HLn.out] at h1; exact h1) ⟨w5.heap.size, 0, none⟩ 1 1 (cellsId y) rfl (by rw [cellsId_len hyo]) (Blk.new w5 y).cells' (cellsId_one y) (by omega) ?_; intro w6 hO6 hG6))
          go_roundw
          case rel =>
            refine ⟨k + 1, rfl, by simp, by omega, ?_, ?_, ?_⟩
            · rw [HYk.out, ← List.append_assoc, ← HLL.out]
              show Ids w6 B (.slice (some ⟨g, 0, none⟩) (n + k + 1) 6) (LL ++ [y])
              unfold Ids
              rw [flatI_append, List.length_append, HLn.out]
              simpa [flatI] using hO6
            · have h1 : OB (w5.alloc (.cells (cellsId y).toArray 23)) w.heap.size me after l := (HR.out.2.1.later HL5.out).later ((Below.refl _ _).alloc (Nat.le_refl _) _)
              obtain ⟨cs, a1, a2⟩ := h1
              exact ⟨cs, by rw [hG6.block _ (Array.getElem?_eq_some_iff.1 a1).1 (by simp; omega)]; exact a1, a2⟩
            · refine grownBy_trans (grownBy_trans HR.out.2.2 (grownBy_of_below HL5.out _)) (grownBy_trans ?_ hG6)
              exact grownBy_of_below ((Below.refl _ _).alloc (Nat.le_refl _) _) _
          case measure => simp [intOf]; omega
        · have hkl' : ¬ (k : Int) < (kp : Int) := by omega
          obtain rfl : k = kp := by omega
          go_wp2
          go_ret
          have e := HKP.out
          have h1 := HR.out.1
          rw [List.take_of_length_le (by omega)] at h1
          refine ⟨l, HNr.out, hlo, by rw [← e]; rfl, by rw [← e]; exact h1, HR.out.2.2⟩
end Go.Proofs.Ybulkadlc
