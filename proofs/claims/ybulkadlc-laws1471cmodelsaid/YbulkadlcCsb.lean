import Derived.Test.YbulkadlcSub
namespace Go.Proofs.Ybulkadlc
open Go.RowKit Go.QuietTail
set_option linter.unusedVariables false
set_option linter.unusedSimpArgs false

theorem numL_drop {d : List Int} (h : d.length = 16) (i : Nat) (hi : i < 16) : numL (d.drop i) = d.getD i 0 * 256 ^ (15 - i) + numL (d.drop (i + 1)) := by
  have e : d.length - (i + 1) = 15 - i := by omega
  rw [List.drop_eq_getElem_cons (by omega), numL, List.length_drop, List.getD_eq_getElem?_getD, List.getElem?_eq_getElem (by omega), e]
  rfl
theorem sub_step (T F D' t f v bo b' P : Int) (h : T - F = D' - bo * P) (hv : v = t - f - bo + 256 * b') : (t * P + T) - (f * P + F) = (v * P + D') - b' * (P * 256) := by
  subst hv
  have e1 : (t - f - bo + 256 * b') * P = t * P - f * P - bo * P + 256 * b' * P := by rw [Int.add_mul, Int.sub_mul, Int.sub_mul]
  have e2 : 256 * b' * P = b' * (P * 256) := by rw [Int.mul_comm 256 b', Int.mul_assoc, Int.mul_comm 256 P]
  rw [e1, e2]
  omega

set_option maxHeartbeats 2000000 in
theorem csub_any (a b : List Int) (ha : IdOk a) (hb : IdOk b) (w : World) :
    Calls Yba.prog 19 #[idv a, idv b] w fun e w' => (∃ D, IdOk D ∧ num D = (num a - num b) % 340282366920938463463374607431768211456 ∧ e = .returned (idv D)) ∧ Below w.heap.size w w' := by
  have n1 := num_bd ha
  have n2 := num_bd hb
  have HNM : Hid ((0 ≤ num a ∧ num a < 340282366920938463463374607431768211456) ∧ (0 ≤ num b ∧ num b < 340282366920938463463374607431768211456)) := ⟨n1, n2⟩
  clear n1 n2
  have hB0 : Below w.heap.size w ((((w.alloc (.cells (cellsId a).toArray 23)).alloc (.cells (cellsId b).toArray 23)).alloc (.cells (cellsId zero16).toArray 23)).alloc (.cells (cellsId zero16).toArray 23)) := ((((Below.refl _ w).alloc (Nat.le_refl _) _).alloc (by simp) _).alloc (by simp; omega) _).alloc (by simp; omega) _
  have hA : Blk ((((w.alloc (.cells (cellsId a).toArray 23)).alloc (.cells (cellsId b).toArray 23)).alloc (.cells (cellsId zero16).toArray 23)).alloc (.cells (cellsId zero16).toArray 23)) w.heap.size a := (((Blk.new w a).alloc _).alloc _).alloc _
  have hBb : Blk ((((w.alloc (.cells (cellsId a).toArray 23)).alloc (.cells (cellsId b).toArray 23)).alloc (.cells (cellsId zero16).toArray 23)).alloc (.cells (cellsId zero16).toArray 23)) (w.heap.size + 1) b := by
    have := ((Blk.new (w.alloc (.cells (cellsId a).toArray 23)) b).alloc (.cells (cellsId zero16).toArray 23)).alloc (.cells (cellsId zero16).toArray 23)
    simpa using this
  have hR : Blk ((((w.alloc (.cells (cellsId a).toArray 23)).alloc (.cells (cellsId b).toArray 23)).alloc (.cells (cellsId zero16).toArray 23)).alloc (.cells (cellsId zero16).toArray 23)) (w.heap.size + 2) zero16 := by
    have := (Blk.new ((w.alloc (.cells (cellsId a).toArray 23)).alloc (.cells (cellsId b).toArray 23)) zero16).alloc (.cells (cellsId zero16).toArray 23)
    simpa using this
  have hD : Blk ((((w.alloc (.cells (cellsId a).toArray 23)).alloc (.cells (cellsId b).toArray 23)).alloc (.cells (cellsId zero16).toArray 23)).alloc (.cells (cellsId zero16).toArray 23)) (w.heap.size + 3) zero16 := by
    have := Blk.new (((w.alloc (.cells (cellsId a).toArray 23)).alloc (.cells (cellsId b).toArray 23)).alloc (.cells (cellsId zero16).toArray 23)) zero16
    simpa using this
  unfold idv
  go_enter Yba.func19, Yba.ntmps19
  go_wp2
  have HS : Hid _ := (⟨hA, hBb, hR, hD, hB0⟩ : _ ∧ _ ∧ _ ∧ _ ∧ _)
  clear hA hBb hR hD hB0
  go_loopw [6, 7] (fun u t wr => ∃ (i : Nat) (bo : Int) (D : List Int), u = .int .i64 bo ∧ t = .int .i64 ((i : Int) - 1) ∧ i ≤ 16 ∧ 0 ≤ bo ∧ bo ≤ 1 ∧ Hid (IdOk D ∧ Blk wr w.heap.size a ∧ Blk wr (w.heap.size + 1) b ∧ Blk wr (w.heap.size + 2) zero16 ∧ Blk wr (w.heap.size + 3) D ∧ Below w.heap.size w wr ∧ numL (a.drop i) - numL (b.drop i) = numL (D.drop i) - bo * 256 ^ (16 - i))) (fun u t wr => (intOf t + 1).toNat)
  case atStart =>
    refine ⟨16, 0, zero16, rfl, rfl, Nat.le_refl _, by omega, by omega, zero16_ok, HS.out.1, HS.out.2.1, HS.out.2.2.1, HS.out.2.2.2.1, HS.out.2.2.2.2, ?_⟩
    rw [List.drop_of_length_le (by rw [ha.1]; omega), List.drop_of_length_le (by rw [hb.1]; omega), List.drop_of_length_le (by rw [zero16_ok.1]; omega)]
    simp [numL]
  case round =>
    obtain ⟨i, bo, D, rfl, rfl, hi, b0, b1, HH⟩ := hrel
    by_cases hlt : 0 < i
    · obtain ⟨j, rfl⟩ : ∃ j, i = j + 1 := ⟨i - 1, by omega⟩
      have hj16 : j < 16 := by omega
      have hge : (0 : Int) ≤ ((j + 1 : Nat) : Int) - 1 := by omega
      have hidx : ((j + 1 : Nat) : Int) - 1 = (j : Int) := by omega
      rw [hidx] at *
      have hj16' : (j : Int) < 16 := by omega
      have c1 := HH.out.2.1.cell j (by rw [ha.1]; exact hj16)
      have c2 := HH.out.2.2.1.cell j (by rw [hb.1]; exact hj16)
      have c3 := HH.out.2.2.2.2.1.cell j (by rw [HH.out.1.1]; exact hj16)
      have f3 := HH.out.2.2.2.2.1.frozen j
      have hx := ha.byte j
      have hy := hb.byte j
      have HT : Hid (numL (a.drop j) = a.getD j 0 * 256 ^ (15 - j) + numL (a.drop (j + 1)) ∧ numL (b.drop j) = b.getD j 0 * 256 ^ (15 - j) + numL (b.drop (j + 1))) := ⟨numL_drop ha.1 j hj16, numL_drop hb.1 j hj16⟩
      generalize a.getD j 0 = x at *
      generalize b.getD j 0 = y at *
      obtain ⟨x0, x1⟩ := hx
      obtain ⟨y0, y1⟩ := hy
      clear hidx hge
      by_cases hneg : x - y - bo < 0
      · go_wp2
        go_quiet (fail)
        go_wp2
        go_roundw
        case rel =>
          have hDj : IdOk (D.set j (x - y - bo + 256)) := set_ok HH.out.1 j _ (by omega) (by omega)
          refine ⟨j, 1, D.set j (x - y - bo + 256), rfl, by simp, by omega, by omega, by omega, hDj, ?_, ?_, ?_, ?_, ?_, ?_⟩
          · exact (show Blk (wr.drewN _) w.heap.size a from HH.out.2.1).kept (grownBy_setCell _ _ _ _) (by simp <;> omega)
          · exact (show Blk (wr.drewN _) (w.heap.size + 1) b from HH.out.2.2.1).kept (grownBy_setCell _ _ _ _) (by simp <;> omega)
          · exact (show Blk (wr.drewN _) (w.heap.size + 2) zero16 from HH.out.2.2.2.1).kept (grownBy_setCell _ _ _ _) (by simp <;> omega)
          · exact (show Blk (wr.drewN _) (w.heap.size + 3) D from HH.out.2.2.2.2.1).stored j _
          · exact (below_drewN HH.out.2.2.2.2.2.1 _).setCell (by show w.heap.size ≤ w.heap.size + 3; omega) _
          · have hs := numL_drop hDj.1 j hj16
            have e1 : (D.set j (x - y - bo + 256)).getD j 0 = (x - y - bo + 256) := by rw [List.getD_eq_getElem?_getD, List.getElem?_set_self (by rw [HH.out.1.1]; exact hj16)]; rfl
            have e2 : (D.set j (x - y - bo + 256)).drop (j + 1) = D.drop (j + 1) := List.drop_set_of_lt (by omega)
            rw [e1, e2] at hs
            have h0 := HH.out.2.2.2.2.2.2
            rw [show 16 - (j + 1) = 15 - j by omega] at h0
            rw [HT.out.1, HT.out.2, hs, show 16 - j = (15 - j) + 1 by omega, Int.pow_succ]
            exact sub_step _ _ _ x y _ bo 1 _ h0 (by omega)
        case measure => simp [intOf]
      · go_wp2
        go_quiet (fail)
        go_wp2
        go_roundw
        case rel =>
          have hDj : IdOk (D.set j (x - y - bo)) := set_ok HH.out.1 j _ (by omega) (by omega)
          refine ⟨j, 0, D.set j (x - y - bo), rfl, by simp, by omega, by omega, by omega, hDj, ?_, ?_, ?_, ?_, ?_, ?_⟩
          · exact (show Blk (wr.drewN _) w.heap.size a from HH.out.2.1).kept (grownBy_setCell _ _ _ _) (by simp <;> omega)
          · exact (show Blk (wr.drewN _) (w.heap.size + 1) b from HH.out.2.2.1).kept (grownBy_setCell _ _ _ _) (by simp <;> omega)
          · exact (show Blk (wr.drewN _) (w.heap.size + 2) zero16 from HH.out.2.2.2.1).kept (grownBy_setCell _ _ _ _) (by simp <;> omega)
          · exact (show Blk (wr.drewN _) (w.heap.size + 3) D from HH.out.2.2.2.2.1).stored j _
          · exact (below_drewN HH.out.2.2.2.2.2.1 _).setCell (by show w.heap.size ≤ w.heap.size + 3; omega) _
          · have hs := numL_drop hDj.1 j hj16
            have e1 : (D.set j (x - y - bo)).getD j 0 = (x - y - bo) := by rw [List.getD_eq_getElem?_getD, List.getElem?_set_self (by rw [HH.out.1.1]; exact hj16)]; rfl
            have e2 : (D.set j (x - y - bo)).drop (j + 1) = D.drop (j + 1) := List.drop_set_of_lt (by omega)
            rw [e1, e2] at hs
            have h0 := HH.out.2.2.2.2.2.2
            rw [show 16 - (j + 1) = 15 - j by omega] at h0
            rw [HT.out.1, HT.out.2, hs, show 16 - j = (15 - j) + 1 by omega, Int.pow_succ]
            exact sub_step _ _ _ x y _ bo 0 _ h0 (by omega)
        case measure => simp [intOf]
    · obtain rfl : i = 0 := by omega
      have HDD : Hid (IdOk D ∧ num D = (num a - num b) % 340282366920938463463374607431768211456) := by
        refine ⟨HH.out.1, ?_⟩
        have h1 := HH.out.2.2.2.2.2.2
        simp only [List.drop_zero] at h1
        rw [numL_num ha.1, numL_num hb.1, numL_num HH.out.1.1, show (256 : Int) ^ (16 - 0) = 340282366920938463463374607431768211456 by decide] at h1
        have h2 := num_bd HH.out.1
        have h3 := HNM.out
        omega
      have hd := HDD.out.1
      have HZ : Hid (Blk wr (w.heap.size + 3) D) := HH.out.2.2.2.2.1
      have HR : Hid (Blk wr (w.heap.size + 2) zero16) := HH.out.2.2.2.1
      go_wp2_with (first | (refine wpList_load_id rfl (.tmp 5) rfl _ rfl D hd.1 HZ.out ?_) | (refine wpList_store_id rfl (.tmp 4) (.tmp 32) rfl _ rfl D hd.1 rfl zero16 rfl HR.out ?_; intro w7 hR7 hg7))
      refine bodyPost_ret (v := idv D) (results_cell_row Yba.results19 _ _ (w.heap.size + 2) 23 _ (0, 0) _ rfl hR7 Yba.underlying23 rfl (by rw [info23]; simp [cellsId, hd.1])) rfl ?_
      exact ⟨⟨D, hd, HDD.out.2, rfl⟩, HH.out.2.2.2.2.2.1.grown hg7 HH.out.2.2.2.2.2.1.size (by rintro k ⟨⟩; omega)⟩
end Go.Proofs.Ybulkadlc
