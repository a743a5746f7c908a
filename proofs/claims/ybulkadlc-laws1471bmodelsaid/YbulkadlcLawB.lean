import Derived.Test.YbulkadlcIn
namespace Go.Proofs.Ybulkadlc
open Go.RowKit Go.QuietTail
set_option linter.unusedVariables false
set_option linter.unusedSimpArgs false

set_option maxHeartbeats 4000000 in
set_option maxRecDepth 100000 in
theorem lawB_walk (me : List Int) (sp fp cp : Option Addr) (sn sc fn fc cn cc : Nat) (ss : List (List Int)) (zs : List Zz) (bs : List Bool) (w : World) (hme : IdOk me) (hss : IsOk ss) (hsn : ss.length = sn) (hs0 : sp = none → sc = 0) (hS : IdsIn w sp ss)
    (hzs : ∀ z ∈ zs, ZOk z) (hfn : zs.length = fn) (hZ : ZsIn w fp zs) (hcn : bs.length = cn) (hC : BsIn w cp bs) (l1 : sn ≤ 1024) (l2 : fn ≤ 1024) (l3 : cn ≤ 1024) :
    Calls Yba.prog 3 #[idv me, .slice sp sn sc, .slice fp fn fc, .slice cp cn cc] w fun e w' => e = .returned (.bool true) ∧ Below w.heap.size w w' := by
  obtain ⟨b, o, hco, hbw⟩ : ∃ b o : Nat, (0 < cn → cp = some ⟨b, o, none⟩ ∧ b < w.heap.size ∧ ∀ j, j < cn → w.cell? ⟨b, o + j, none⟩ = some (.bool (bs.getD j false))) ∧ b ≤ w.heap.size := by
    by_cases h0 : 0 < cn
    · obtain ⟨b, o, h1, h2, h3⟩ := hC (by omega)
      exact ⟨b, o, fun _ => ⟨h1, h2, by rw [hcn] at h3; exact h3⟩, by omega⟩
    · exact ⟨0, 0, fun h => absurd h h0, Nat.zero_le _⟩
  have HCO : Hid _ := hco
  have HS : Hid (IdsIn w sp ss) := hS
  have HZ : Hid (ZsIn w fp zs) := hZ
  have HSN : Hid (ss.length = sn) := hsn
  have HFN : Hid (zs.length = fn) := hfn
  have HCN : Hid (bs.length = cn) := hcn
  clear hS hZ hC hco hsn hfn hcn
  unfold idv
  have hBW : Below w.heap.size w ((w.alloc (.cells (cellsId me).toArray 23)).alloc (.cells #[.slice cp cn cc] 26)) := ((Below.refl _ w).alloc (Nat.le_refl _) _).alloc (by simp) _
  have hSB : Blk ((w.alloc (.cells (cellsId me).toArray 23)).alloc (.cells #[.slice cp cn cc] 26)) w.heap.size me := (Blk.new w me).alloc _
  have hCB : ((w.alloc (.cells (cellsId me).toArray 23)).alloc (.cells #[.slice cp cn cc] 26)).heap[w.heap.size + 1]? = some (.cells #[.slice cp cn cc] 26 (0, 0)) := by have := heap_alloc_new (w.alloc (.cells (cellsId me).toArray 23)) (.cells #[.slice cp cn cc] 26); simpa using this
  go_enter Yba.func3, Yba.ntmps3
  go_wp2_with fail
  generalize ((w.alloc (.cells (cellsId me).toArray 23)).alloc (.cells #[.slice cp cn cc] 26)) = W at *
  obtain ⟨d0, d1, d2, d3, d4, d5, d6, d7, d8, d9, d10, d11, d12, d13, d14, d15, hdd⟩ := list16 me hme.1
  have HCE : Hid (∀ w2, Below W.heap.size W w2 → ∀ j, j < 16 → w2.cell? ⟨w.heap.size, j, none⟩ = some (.int .u8 (me.getD j 0))) := fun w2 h j hj => (hSB.later h).cell j (by rw [hme.1]; exact hj)
  have HCL : Hid (∀ W', Below W.heap.size W W' → Calls Yba.prog 6 #[.slice sp sn sc] W' fun e w' => ∃ v, e = .returned v ∧ (Ids w' w.heap.size v ss ∧ Below W.heap.size W w')) := fun W' h => by
    have hB := hBW.trans (h.mono hBW.size)
    refine (clone_any sp sn sc ss W' hss HSN.out (by omega) hs0 (HS.out.later hB)).mono ?_
    rintro e w' ⟨v, rfl, h1, h2⟩
    exact ⟨v, rfl, ⟨h1.1, h1.2.imp id (fun ⟨g, cap, cur, a1, a2, a3⟩ => ⟨g, cap, cur, a1, Nat.le_trans hB.size a2, a3⟩)⟩, h.trans (h2.mono h.size)⟩
  have c0 := HCE.out W (Below.refl _ _) 0 (by omega)
  have c1 := HCE.out W (Below.refl _ _) 1 (by omega)
  have c2 := HCE.out W (Below.refl _ _) 2 (by omega)
  have c3 := HCE.out W (Below.refl _ _) 3 (by omega)
  have c4 := HCE.out W (Below.refl _ _) 4 (by omega)
  have c5 := HCE.out W (Below.refl _ _) 5 (by omega)
  have c6 := HCE.out W (Below.refl _ _) 6 (by omega)
  have c7 := HCE.out W (Below.refl _ _) 7 (by omega)
  have c8 := HCE.out W (Below.refl _ _) 8 (by omega)
  have c9 := HCE.out W (Below.refl _ _) 9 (by omega)
  have c10 := HCE.out W (Below.refl _ _) 10 (by omega)
  have c11 := HCE.out W (Below.refl _ _) 11 (by omega)
  have c12 := HCE.out W (Below.refl _ _) 12 (by omega)
  have c13 := HCE.out W (Below.refl _ _) 13 (by omega)
  have c14 := HCE.out W (Below.refl _ _) 14 (by omega)
  have c15 := HCE.out W (Below.refl _ _) 15 (by omega)
  have HWD : Hid (Below W.heap.size W W.drew) := (Below.refl _ W).drew
  rw [hdd] at c0 c1 c2 c3 c4 c5 c6 c7 c8 c9 c10 c11 c12 c13 c14 c15
  simp only [List.getD_cons_zero, List.getD_cons_succ] at c0 c1 c2 c3 c4 c5 c6 c7 c8 c9 c10 c11 c12 c13 c14 c15
  have HDD : Hid (me = [d0, d1, d2, d3, d4, d5, d6, d7, d8, d9, d10, d11, d12, d13, d14, d15]) := hdd
  clear hdd
  go_region_law ((refine step_clone rfl (.tmp 37) _ rfl (.slice sp sn sc) rfl _ (HCL.out _ HWD.out) ?_; intro v2 w2 hR; obtain ⟨p2, m2, q2, rfl⟩ : ∃ p n c, v2 = .slice p n c := hR.1.form2; have e0 := HCE.out w2 hR.2 0 (by omega); have e1 := HCE.out w2 hR.2 1 (by omega); have e2 := HCE.out w2 hR.2 2 (by omega); have e3 := HCE.out w2 hR.2 3 (by omega); have e4 := HCE.out w2 hR.2 4 (by omega); have e5 := HCE.out w2 hR.2 5 (by omega); have e6 := HCE.out w2 hR.2 6 (by omega); have e7 := HCE.out w2 hR.2 7 (by omega); have e8 := HCE.out w2 hR.2 8 (by omega); have e9 := HCE.out w2 hR.2 9 (by omega); have e10 := HCE.out w2 hR.2 10 (by omega); have e11 := HCE.out w2 hR.2 11 (by omega); have e12 := HCE.out w2 hR.2 12 (by omega); have e13 := HCE.out w2 hR.2 13 (by omega); have e14 := HCE.out w2 hR.2 14 (by omega); have e15 := HCE.out w2 hR.2 15 (by omega); rw [HDD.out] at e0 e1 e2 e3 e4 e5 e6 e7 e8 e9 e10 e11 e12 e13 e14 e15; simp only [List.getD_cons_zero, List.getD_cons_succ] at e0 e1 e2 e3 e4 e5 e6 e7 e8 e9 e10 e11 e12 e13 e14 e15; have HR : Hid (Ids w2 w.heap.size (.slice p2 m2 q2) ss ∧ Below W.heap.size W w2) := hR; clear hR))
  all_goals
    clear e0 e1 e2 e3 e4 e5 e6 e7 e8 e9 e10 e11 e12 e13 e14 e15
    have HB2 : Hid (Below w.heap.size w w2) := hBW.trans (HR.out.2.mono hBW.size)
    obtain ⟨vs, hvs⟩ : ∃ vs, vs = Value.slice p2 m2 q2 := ⟨_, rfl⟩
    have HL0 : Hid (LSt w ((w2.alloc (.cells #[.int .u8 d0, .int .u8 d1, .int .u8 d2, .int .u8 d3, .int .u8 d4, .int .u8 d5, .int .u8 d6, .int .u8 d7, .int .u8 d8, .int .u8 d9, .int .u8 d10, .int .u8 d11, .int .u8 d12, .int .u8 d13, .int .u8 d14, .int .u8 d15, .slice none 0 0, .slice p2 m2 q2, .slice none 0 0] 33)).alloc (.cells z129 34)) me ss (.slice cp cn cc) w2.heap.size w.heap.size (w.heap.size + 1) (w2.heap.size + 1) vs (.slice none 0 0) [] (valL me [])) := by
      have a1 : Below w2.heap.size w2 (w2.alloc (.cells #[.int .u8 d0, .int .u8 d1, .int .u8 d2, .int .u8 d3, .int .u8 d4, .int .u8 d5, .int .u8 d6, .int .u8 d7, .int .u8 d8, .int .u8 d9, .int .u8 d10, .int .u8 d11, .int .u8 d12, .int .u8 d13, .int .u8 d14, .int .u8 d15, .slice none 0 0, .slice p2 m2 q2, .slice none 0 0] 33)) := (Below.refl _ w2).alloc (Nat.le_refl _) _
      have a2 : Below w2.heap.size w2 ((w2.alloc (.cells #[.int .u8 d0, .int .u8 d1, .int .u8 d2, .int .u8 d3, .int .u8 d4, .int .u8 d5, .int .u8 d6, .int .u8 d7, .int .u8 d8, .int .u8 d9, .int .u8 d10, .int .u8 d11, .int .u8 d12, .int .u8 d13, .int .u8 d14, .int .u8 d15, .slice none 0 0, .slice p2 m2 q2, .slice none 0 0] 33)).alloc (.cells z129 34)) := a1.alloc (by simp) _
      have t0 : TBlk (w2.alloc (.cells #[.int .u8 d0, .int .u8 d1, .int .u8 d2, .int .u8 d3, .int .u8 d4, .int .u8 d5, .int .u8 d6, .int .u8 d7, .int .u8 d8, .int .u8 d9, .int .u8 d10, .int .u8 d11, .int .u8 d12, .int .u8 d13, .int .u8 d14, .int .u8 d15, .slice none 0 0, .slice p2 m2 q2, .slice none 0 0] 33)) w2.heap.size me (.slice none 0 0) vs (.slice none 0 0) := by
        rw [HDD.out, hvs]
        exact heap_alloc_new w2 _
      have v0 := VB.new (w2.alloc (.cells #[.int .u8 d0, .int .u8 d1, .int .u8 d2, .int .u8 d3, .int .u8 d4, .int .u8 d5, .int .u8 d6, .int .u8 d7, .int .u8 d8, .int .u8 d9, .int .u8 d10, .int .u8 d11, .int .u8 d12, .int .u8 d13, .int .u8 d14, .int .u8 d15, .slice none 0 0, .slice p2 m2 q2, .slice none 0 0] 33))
      rw [World.size_alloc] at v0
      refine ⟨t0.later ((Below.refl _ _).alloc (Nat.le_refl _) _), World.ownsRow_nil _ _ _ _, by rw [hvs]; exact HR.out.1.later a2, v0, (hSB.later HR.out.2).later a2, ?_, HB2.out.trans (a2.mono HB2.out.size), HB2.out.size, Nat.le_succ_of_le HB2.out.size⟩
      have hlt := (Array.getElem?_eq_some_iff.1 hCB).1
      rw [a2.block _ (Nat.lt_of_lt_of_le hlt HR.out.2.size), HR.out.2.block _ hlt]
      exact hCB
    have HTW : Hid (w2.heap.size < w2.heap.size + 1) := Nat.lt_succ_self _
    have z34 := zero34 (w2.alloc (.cells #[.int .u8 d0, .int .u8 d1, .int .u8 d2, .int .u8 d3, .int .u8 d4, .int .u8 d5, .int .u8 d6, .int .u8 d7, .int .u8 d8, .int .u8 d9, .int .u8 d10, .int .u8 d11, .int .u8 d12, .int .u8 d13, .int .u8 d14, .int .u8 d15, .slice none 0 0, .slice p2 m2 q2, .slice none 0 0] 33))
    clear c0 c1 c2 c3 c4 c5 c6 c7 c8 c9 c10 c11 c12 c13 c14 c15 HCE HCL HWD hSB hCB hBW HR HB2
    go_wp2
    clear z34 hvs
    generalize ((w2.alloc (.cells #[.int .u8 d0, .int .u8 d1, .int .u8 d2, .int .u8 d3, .int .u8 d4, .int .u8 d5, .int .u8 d6, .int .u8 d7, .int .u8 d8, .int .u8 d9, .int .u8 d10, .int .u8 d11, .int .u8 d12, .int .u8 d13, .int .u8 d14, .int .u8 d15, .slice none 0 0, .slice p2 m2 q2, .slice none 0 0] 33)).alloc (.cells z129 34)) = W3 at *
    obtain ⟨T, hT⟩ : ∃ T, T = w2.heap.size := ⟨_, rfl⟩
    rw [← hT] at HL0 ⊢
    clear hT HDD HTW
    go_loopw [44] (fun u wr => ∃ (j : Nat) (vf : Value) (l : List Fg), u = .int .i64 j ∧ j ≤ fn ∧ Hid (LSt w wr me ss (.slice cp cn cc) T w.heap.size (w.heap.size + 1) (T + 1) vs vf l (valL me l) ∧ FOk l ∧ Asc l ∧ FB l ∧ l.length ≤ j)) (fun u wr => (fn - intOf u).toNat)
    case atStart => exact ⟨0, _, [], rfl, Nat.zero_le _, HL0.out, fun x hx => by simp at hx, fun j k x y hj => by simp at hj, fun x hx => by simp at hx, Nat.le_refl _⟩
    case round =>
      obtain ⟨j, vf, l, rfl, hjn, HH⟩ := hrel
      by_cases hlt : j < fn
      · have hlt' : (j : Int) < (fn : Int) := by omega
        have hFN := HFN.out
        obtain ⟨z, hz⟩ : ∃ z, zs[j]? = some z := ⟨_, List.getElem?_eq_getElem (show j < zs.length by omega)⟩
        have hzo := hzs z (List.mem_of_getElem? hz)
        obtain ⟨fb, fo, hfp, hfb, hcells⟩ := HZ.out (by omega)
        subst hfp
        have LD : Hid (wr.rangeAt fb (fo + j * 19) (zCells z)) := fun t v ht => by
          have := hcells j z hz t v ht
          rw [HH.out.1.bel.cell (p := ⟨fb, fo + j * 19 + t, none⟩) hfb]
          exact this
        have hzl := zCells_len hzo
        obtain ⟨⟨ze0, ze1⟩, ⟨zo0, zo1⟩, hzr⟩ := hzo
        clear hFN hz hcells
        have HOK : Hid (FOk l ∧ Asc l ∧ FB l ∧ l.length ≤ j) := HH.out.2
        go_wp2_with (first | (refine wpList_load_mid rfl 37 (.tmp 46) rfl _ _ rfl (zCells z) _ LD.out Yba.underlying37 rfl (by rw [info37, hzl]) ?_) | (refine wpList_store_z rfl (.tmp 12) (.tmp 47) rfl _ rfl z hzl rfl ⟨0, 0, false, zero16⟩ rfl (ZB.new wr (⟨0, 0, false, zero16⟩ : Zz)) ?_; intro w4 hZ4 hg4; have L4 : Below wr.heap.size wr w4 := ((Below.refl _ wr).alloc (Nat.le_refl _) _).grown hg4 (by simp) (by rintro k ⟨⟩; exact Nat.le_refl _); have c0 := hZ4.c0; have HRW : Hid (w4.rangeAt wr.heap.size 3 (cellsId z.raw)) := hZ4.raw; have HZ4 : Hid (ZB w4 wr.heap.size z) := hZ4; have HL4 : Hid (Below wr.heap.size wr w4) := L4; clear hZ4 hg4 L4) | (refine wpList_load_mid rfl 23 (.tmp 53) rfl _ _ rfl (cellsId z.raw) _ HRW.out Yba.underlying23 rfl (by rw [info23]; simp [cellsId, hzr.1]) ?_) | (refine wpList_store_id rfl (.tmp 14) (.tmp 54) rfl _ rfl z.raw hzr.1 rfl zero16 rfl (Blk.new w4 zero16) ?_; intro w5 hB5 hg5; have L5 : Below w4.heap.size w4 w5 := ((Below.refl _ w4).alloc (Nat.le_refl _) _).grown hg5 (by simp) (by rintro k ⟨⟩; exact Nat.le_refl _); have c25 := (HZ4.out.later L5).c2; have c15 := (HZ4.out.later L5).c1; have HB5 : Hid (Blk w5 w4.heap.size z.raw) := hB5; have HL5 : Hid (Below wr.heap.size wr w5) := HL4.out.trans (L5.mono HL4.out.size); have HLS5 : Hid (LSt w w5 me ss (.slice cp cn cc) T w.heap.size (w.heap.size + 1) (T + 1) vs vf l (valL me l)) := HH.out.1.later HL5.out; clear hB5 hg5 L5 c0) | (refine wpList_load_id rfl (.tmp 4) rfl _ rfl me hme.1 HL8.out.hsb ?_) | (refine wpList_load_id rfl (.tmp 14) rfl _ rfl pd hpd.1 HP8.out ?_) | (go_at_call 9; refine (finger_any me pd hme hpd w8).mono ?_; rintro e w9 ⟨rfl, hb9⟩; have HL9 : Hid (LSt w w9 me ss (.slice cp cn cc) T w.heap.size (w.heap.size + 1) (T + 1) vs vf8 l8 (valL me l)) := HL8.out.later hb9; have cW := HL9.out.vb.cell (1 + z.e % 128).toNat (by omega); have fW := HL9.out.vb.frozen (1 + z.e % 128).toNat; clear hb9) | (refine wpList_load_id rfl (.tmp 14) rfl _ rfl z.raw hzr.1 HP8.out ?_) | (go_at_call 9; refine (finger_any me z.raw hme hzr w8).mono ?_; rintro e w9 ⟨rfl, hb9⟩; have HL9 : Hid (LSt w w9 me ss (.slice cp cn cc) T w.heap.size (w.heap.size + 1) (T + 1) vs vf8 l8 (valL me l)) := HL8.out.later hb9; have cW := HL9.out.vb.cell (1 + z.e % 128).toNat (by omega); have fW := HL9.out.vb.frozen (1 + z.e % 128).toNat; clear hb9) | (refine wpList_load_id rfl (.tmp 14) rfl _ rfl pd hpd.1 HB7.out ?_) | (go_at_call 8; refine (setFinger_any T w.heap.size me (.slice none 0 0) vs vf l (1 + z.e % 128) pd (by omega) (by omega) hme.1 hpd HOK.out.1 HOK.out.2.1 (by have := HOK.out.2.2.2; omega) w7 HLS7.out.tb HLS7.out.tab HLS7.out.bel.size).mono ?_; rintro e w8 ⟨rfl, vf8, l8, hT8, hA8, hS8, hK8⟩; have HL8 : Hid (LSt w w8 me ss (.slice cp cn cc) T w.heap.size (w.heap.size + 1) (T + 1) vs vf8 l8 (valL me l)) := HLS7.out.setF hK8 hT8 hA8; have HP8 : Hid (Blk w8 w4.heap.size pd) := hK8.at HLS7.out.tb HLS7.out.tab HB7.out (by decide) (by decide); have HS8 : Hid (Setted l (1 + z.e % 128) pd l8) := hS8; clear hT8 hA8 hS8 hK8) | (refine wpList_load_id rfl (.tmp 14) rfl _ rfl z.raw hzr.1 HB5.out ?_) | (go_at_call 8; refine (setFinger_any T w.heap.size me (.slice none 0 0) vs vf l (1 + z.e % 128) z.raw (by omega) (by omega) hme.1 hzr HOK.out.1 HOK.out.2.1 (by have := HOK.out.2.2.2; omega) w5 HLS5.out.tb HLS5.out.tab HLS5.out.bel.size).mono ?_; rintro e w8 ⟨rfl, vf8, l8, hT8, hA8, hS8, hK8⟩; have HL8 : Hid (LSt w w8 me ss (.slice cp cn cc) T w.heap.size (w.heap.size + 1) (T + 1) vs vf8 l8 (valL me l)) := HLS5.out.setF hK8 hT8 hA8; have HP8 : Hid (Blk w8 w4.heap.size z.raw) := hK8.at HLS5.out.tb HLS5.out.tab HB5.out (by decide) (by decide); have HS8 : Hid (Setted l (1 + z.e % 128) z.raw l8) := hS8; clear hT8 hA8 hS8 hK8) | (refine wpList_load_id rfl (.tmp 4) rfl _ rfl me hme.1 HLS5.out.hsb ?_) | (go_at_call 7; refine (bpeer_any me (1 + z.e % 128) z.off hme (by omega) (by omega) zo0 zo1 w5).mono ?_; rintro e w6 ⟨⟨pd, hpd, rfl⟩, hb6⟩; have HB6 : Hid (Blk w6 w4.heap.size z.raw) := HB5.out.later hb6; have HL6 : Hid (Below wr.heap.size wr w6) := HL5.out.trans (hb6.mono HL5.out.size); unfold idv; clear hb6) | (refine wpList_store_id rfl (.tmp 14) (.tmp 61) rfl _ rfl pd hpd.1 rfl z.raw hzr.1 HB6.out ?_; intro w7 hB7 hg7; have HB7 : Hid (Blk w7 w4.heap.size pd) := hB7; have HL7 : Hid (Below wr.heap.size wr w7) := HL6.out.grown hg7 HL6.out.size (by rintro k ⟨⟩; exact HL4.out.size); have HLS7 : Hid (LSt w w7 me ss (.slice cp cn cc) T w.heap.size (w.heap.size + 1) (T + 1) vs vf l (valL me l)) := HH.out.1.later HL7.out; clear hB7 hg7))
        · go_roundw
          case rel =>
            refine ⟨j + 1, vf8, l8, by simp, by omega, ?_, HS8.out.1, HS8.out.2.1, fb_set l l8 _ _ HS8.out (by omega) (by omega) HOK.out.2.2.1, ?_⟩
            · exact (HL9.out.setV (1 + z.e % 128).toNat (fing me pd == 1 + z.e % 128)).congr (fun i _ => valL_set me l l8 _ _ HS8.out (by omega) i)
            · have := HS8.out.2.2.1
              have := HOK.out.2.2.2
              omega
          case measure => simp [intOf]; omega
        · go_roundw
          case rel =>
            refine ⟨j + 1, vf8, l8, by simp, by omega, ?_, HS8.out.1, HS8.out.2.1, fb_set l l8 _ _ HS8.out (by omega) (by omega) HOK.out.2.2.1, ?_⟩
            · exact (HL9.out.setV (1 + z.e % 128).toNat (fing me z.raw == 1 + z.e % 128)).congr (fun i _ => valL_set me l l8 _ _ HS8.out (by omega) i)
            · have := HS8.out.2.2.1
              have := HOK.out.2.2.2
              omega
          case measure => simp [intOf]; omega
      · have hlt' : ¬ (j : Int) < (fn : Int) := by omega
        have HLS : Hid (LSt w wr me ss (.slice cp cn cc) T w.heap.size (w.heap.size + 1) (T + 1) vs vf l (valL me l)) := HH.out.1
        have HOK : Hid (FOk l ∧ Asc l ∧ FB l ∧ l.length ≤ 2048) := ⟨HH.out.2.1, HH.out.2.2.1, HH.out.2.2.2.1, by have := HH.out.2.2.2.2; omega⟩
        have hfc := fcount_bd me ss
        obtain ⟨cnt, hcnt⟩ : ∃ cnt : Nat, (cnt : Int) = fcount me ss := ⟨(fcount me ss).toNat, by omega⟩
        have HCT : Hid ((fcount me ss).toNat = cnt) := by show _ = _; omega
        have hc128 : cnt ≤ 128 := by omega
        have HF0 : Hid (Calls Yba.prog 10 #[.pointer (some ⟨T, 0, none⟩)] wr fun e w' => e = .returned (.int .i64 cnt) ∧ Below wr.heap.size wr w') := by
          have := fcount_any T w.heap.size me (.slice none 0 0) vs vf ss hme hss (by have := HSN.out; omega) wr HLS.out.tb HLS.out.ids
          rw [← hcnt] at this
          exact this
        obtain ⟨C, hCd⟩ : ∃ C : Nat → Bool, C = fun j => bs.getD j false := ⟨_, rfl⟩
        obtain ⟨R, hR⟩ : ∃ R, R = pick (valL me l) C cnt 1 0 0 := ⟨_, rfl⟩
        have HCD : Hid (C = fun j => bs.getD j false) := hCd
        have HRR : Hid (R = pick (valL me l) C cnt 1 0 0) := hR
        have HCS : Hid (∀ W : World, Below wr.heap.size wr W → Coins W (w.heap.size + 1) cp b o cn cc C) := fun W hW => by
          have hL := (HLS.out.later hW)
          refine ⟨⟨?_, fun h => (HCO.out h).1⟩, fun j hj => ?_, fun j hj => ?_⟩
          · rw [cell_of_row W _ 0 _ 26 (0, 0) hL.hcb]; rfl
          · rw [hL.bel.cell (p := ⟨b, o + j, none⟩) (HCO.out (by omega)).2.1, HCD.out]
            exact (HCO.out (by omega)).2.2 j hj
          · rw [HCD.out]
            show bs.getD j false = false
            rw [List.getD_eq_getElem?_getD, List.getElem?_eq_none (by have := HCN.out; omega)]; rfl
        have HFT : Hid (∀ w4, Below wr.heap.size wr w4 → Calls Yba.prog 12 #[.pointer (some ⟨T, 0, none⟩), .func (.func 11) #[] #[.pointer (some ⟨w4.heap.size, 0, none⟩), .pointer (some ⟨w.heap.size + 1, 0, none⟩)]] (w4.alloc (.cells #[.int .i64 0] 3)) fun e w' =>
            e = .returned (.int .i64 (R.1 : Int)) ∧ w'.heap[w4.heap.size]? = some (.cells #[.int .i64 (R.2 : Int)] 3 (0, 0)) ∧ (w4.alloc (.cells #[.int .i64 0] 3)).grownBy w' (some w4.heap.size)) := fun w4 hb4 => by
          have L5 : Below wr.heap.size wr (w4.alloc (.cells #[.int .i64 0] 3)) := hb4.alloc hb4.size _
          have LS5 := HLS.out.later L5
          have hcl := (Array.getElem?_eq_some_iff.1 HLS.out.hcb).1
          have hsz := hb4.size
          have := ftr_any T w.heap.size me (.slice none 0 0) vs vf l ss C w4.heap.size (w.heap.size + 1) b o cn cc cp (w4.alloc (.cells #[.int .i64 0] 3)) hme HOK.out.1 HOK.out.2.1 HOK.out.2.2.1 HOK.out.2.2.2 hss (by have := HSN.out; omega) LS5.tb LS5.tab LS5.ids l3
            (heap_alloc_new w4 _) (HCS.out _ L5) (by omega) (by omega) (by simp; omega) (fun h => by have := (HCO.out h).2.1; simp; omega)
          rw [HCT.out, ← HRR.out] at this
          exact this
        have HPO : Hid (∀ w4 w6, Below wr.heap.size wr w4 → w6.heap[w4.heap.size]? = some (.cells #[.int .i64 (R.2 : Int)] 3 (0, 0)) → (w4.alloc (.cells #[.int .i64 0] 3)).grownBy w6 (some w4.heap.size) →
            ((∀ i, i < 129 → w6.cell? ⟨T + 1, i, none⟩ = some (.bool (valL me l i))) ∧ Coins w6 (w.heap.size + 1) cp b o cn cc C ∧ w6.cell? ⟨w4.heap.size, 0, none⟩ = some (.int .i64 (R.2 : Int)) ∧ Below w.heap.size w w6)) := fun w4 w6 hb4 hk6 hg6 => by
          have L5 : Below wr.heap.size wr (w4.alloc (.cells #[.int .i64 0] 3)) := hb4.alloc hb4.size _
          have LS5 := HLS.out.later L5
          have hcl := (Array.getElem?_eq_some_iff.1 HLS.out.hcb).1
          have hvl := HLS.out.vb.lt
          have hsz := hb4.size
          have L6 : Below wr.heap.size wr w6 := L5.grown hg6 L5.size (by rintro k ⟨⟩; exact hsz)
          have LS6 := HLS.out.later L6
          exact ⟨fun i hi => LS6.vb.cell i hi, HCS.out w6 L6, by rw [cell_of_row w6 _ 0 _ 3 (0, 0) hk6]; rfl, LS6.bel⟩
        clear hfc hcnt hCd hR HH
        go_wp2_with (first | (go_at_call 10; refine HF0.out.mono ?_; rintro e w4 ⟨rfl, hb4⟩; have HB4 : Hid (Below wr.heap.size wr w4) := hb4; clear hb4) | (go_at_call 12; refine (HFT.out w4 HB4.out).mono ?_; rintro e w6 ⟨rfl, hk6, hg6⟩; have HX6 : Hid _ := HPO.out w4 w6 HB4.out hk6 hg6; clear hk6 hg6))
        have HV6 : Hid (∀ i, i < 129 → w6.cell? ⟨T + 1, i, none⟩ = some (.bool (valL me l i))) := HX6.out.1
        have c60 := HX6.out.2.1.1.1
        have cK6 := HX6.out.2.2.1
        have HC6 : Hid ((0 < cn → cp = some ⟨b, o, none⟩) ∧ (∀ j, j < cn → w6.cell? ⟨b, o + j, none⟩ = some (.bool (C j))) ∧ (∀ j, cn ≤ j → C j = false)) := ⟨HX6.out.2.1.1.2, HX6.out.2.1.2⟩
        have HB6 : Hid (Below w.heap.size w w6) := HX6.out.2.2.2
        clear HX6 HF0 HFT HPO
        obtain ⟨V, hV⟩ : ∃ V, V = valL me l := ⟨_, rfl⟩
        rw [← hV] at HV6 HRR
        clear hV HLS HOK
        go_loopw [19, 20, 21] (fun x y u wq => ∃ last k i : Nat, x = .int .i64 last ∧ y = .int .i64 k ∧ u = .int .i64 i ∧ 1 ≤ i ∧ i ≤ cnt + 1 ∧ k ≤ i ∧ Hid (pick V C (cnt + 1 - i) i last k = R) ∧ w6 = wq) (fun x y u wq => (129 - intOf u).toNat)
        case atStart => exact ⟨0, 0, 1, rfl, rfl, rfl, by omega, by omega, by omega, HRR.out.symm, rfl⟩
        case round =>
          obtain ⟨last, k, i, rfl, rfl, rfl, hi1, hi2, hki, HP, rfl⟩ := hrel
          by_cases hle : i ≤ cnt
          · have hle' : (i : Int) ≤ (cnt : Int) := by omega
            have hi129 : i < 129 := by omega
            have HPP : Hid (pick V C (cnt + 1 - i) i last k = if V i then pick V C (cnt + 1 - (i + 1)) (i + 1) last k else if C k then (i, k + 1) else pick V C (cnt + 1 - (i + 1)) (i + 1) i (k + 1)) := by
              show _ = _
              rw [show cnt + 1 - i = (cnt + 1 - (i + 1)) + 1 by omega, pick]
            have cV := HV6.out i hi129
            rcases hVi : V i with _ | _
            · rw [hVi] at cV
              by_cases hkc : k < cn
              · have hkc' : (k : Int) < (cn : Int) := by omega
                have hcp := HC6.out.1 (by omega)
                have cC := HC6.out.2.1 k hkc
                subst hcp
                rcases hCk : C k with _ | _
                · rw [hCk] at cC
                  go_wp2
                  go_roundw
                  case rel => exact ⟨i, k + 1, i + 1, rfl, by simp, by simp, by omega, by omega, by omega, by have := HP.out; rw [HPP.out, hVi, hCk] at this; exact this, trivial⟩
                  case measure => simp [intOf]; omega
                · rw [hCk] at cC
                  have hE : R = (i, k + 1) := by have := HP.out; rw [HPP.out, hVi, hCk] at this; exact this.symm
                  rw [hE] at cK6
                  have HE : Hid (R = (i, k + 1)) := hE
                  go_wp2
                  go_ret
                  exact ⟨rfl, HB6.out⟩
              · have hkc' : ¬ (k : Int) < (cn : Int) := by omega
                have hCk := HC6.out.2.2 k (by omega)
                go_wp2
                go_roundw
                case rel => exact ⟨i, k + 1, i + 1, rfl, by simp, by simp, by omega, by omega, by omega, by have := HP.out; rw [HPP.out, hVi, hCk] at this; exact this, trivial⟩
                case measure => simp [intOf]; omega
            · rw [hVi] at cV
              go_wp2
              go_roundw
              case rel => exact ⟨last, k, i + 1, rfl, rfl, by simp, by omega, by omega, by omega, by have := HP.out; rw [HPP.out, hVi] at this; exact this, trivial⟩
              case measure => simp [intOf]; omega
          · have hle' : ¬ (i : Int) ≤ (cnt : Int) := by omega
            have hE : R = (last, k) := by have := HP.out; rw [show cnt + 1 - i = 0 by omega, pick] at this; exact this.symm
            rw [hE] at cK6
            go_wp2
            go_ret
            exact ⟨rfl, HB6.out⟩
end Go.Proofs.Ybulkadlc
