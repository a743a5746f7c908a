import Derived.Test.YbulkadlcBel
namespace Go.Proofs.Ybulkadlc
open Go.RowKit Go.QuietTail
set_option linter.unusedVariables false
set_option linter.unusedSimpArgs false

theorem TI.later {w w' : World} {N K : Nat} {me : List Int} {p s : List (List Int)} (h : TI w N me p s K) (hb : Below w.heap.size w w') : TI w' N me p s K := by
  obtain ⟨⟨vp, vs, h1, h2, h3, h7⟩, h4, h5, h6⟩ := h
  exact ⟨⟨vp, vs, h1.later hb, h2.later hb, h3.later hb, h7⟩, h4, h5, h6⟩
theorem TI.lt {w : World} {N K : Nat} {me : List Int} {p s : List (List Int)} (h : TI w N me p s K) : N < w.heap.size := by
  obtain ⟨⟨vp, vs, h1, h2, h3⟩, h4, h5, h6⟩ := h
  exact h1.lt

set_option maxHeartbeats 2000000 in
theorem build_any (me : List Int) (a : Option Addr) (n c : Nat) (zs : List Stp) (hm : IdOk me) (hz : ∀ z ∈ zs, StOk z) (hn : zs.length = n) (hl : n ≤ 256) (w : World) (hI : StIn w a zs) :
    Calls Yba.prog 14 #[idv me, .slice a n c] w fun e w' => ∃ p s p1 n1 c1 p2 n2 c2, e = .returned (.agg (ntC me (.slice p1 n1 c1) (.slice p2 n2 c2)).toArray) ∧ (IdsR w' (.slice p1 n1 c1) p ∧ IdsR w' (.slice p2 n2 c2) s ∧ IsOk p ∧ IsOk s ∧ ∃ X, Near (kd me false) X p ∧ Near (kd me true) X s) ∧ Below w.heap.size w w' := by
  have HN : Hid (zs.length = n) := hn
  have HI : Hid (StIn w a zs) := hI
  have HB0 : Hid (Below w.heap.size w ((w.alloc (.cells (cellsId me).toArray 23)).alloc (.cells (ntC zero16 (.slice none 0 0) (.slice none 0 0)).toArray 30))) := ((Below.refl _ w).alloc (Nat.le_refl _) _).alloc (by simp) _
  have HM0 : Hid (Blk ((w.alloc (.cells (cellsId me).toArray 23)).alloc (.cells (ntC zero16 (.slice none 0 0) (.slice none 0 0)).toArray 30)) w.heap.size me) := (Blk.new w me).alloc _
  have HR0 : Hid (NT ((w.alloc (.cells (cellsId me).toArray 23)).alloc (.cells (ntC zero16 (.slice none 0 0) (.slice none 0 0)).toArray 30)) (w.heap.size + 1) zero16 (.slice none 0 0) (.slice none 0 0)) := by
    have := NT.new (w.alloc (.cells (cellsId me).toArray 23)) zero16 (.slice none 0 0) (.slice none 0 0)
    rw [World.size_alloc] at this
    exact this
  have HNZ : Hid (NT (((w.alloc (.cells (cellsId me).toArray 23)).alloc (.cells (ntC zero16 (.slice none 0 0) (.slice none 0 0)).toArray 30)).alloc (.cells (ntC zero16 (.slice none 0 0) (.slice none 0 0)).toArray 30)) (w.heap.size + 1 + 1) zero16 (.slice none 0 0) (.slice none 0 0)) := by
    have := NT.new ((w.alloc (.cells (cellsId me).toArray 23)).alloc (.cells (ntC zero16 (.slice none 0 0) (.slice none 0 0)).toArray 30)) zero16 (.slice none 0 0) (.slice none 0 0)
    rw [World.size_alloc, World.size_alloc] at this
    exact this
  clear hn hI
  unfold idv
  go_enter Yba.func14, Yba.ntmps14
  go_wp2_with (first | (refine wpList_load_id rfl (.tmp 2) rfl _ rfl me hm.1 HM0.out ?_) | (refine wpList_b30 rfl (.tmp 9) rfl me hm.1 rfl ?_) | (refine wpList_store_nt rfl (.tmp 5) (.tmp 10) rfl _ rfl me hm.1 none none 0 0 0 0 rfl zero16 rfl (.slice none 0 0) (.slice none 0 0) HNZ.out ?_; intro w2 hN2 hg2))
  have HB2 : Hid (Below w.heap.size w w2) := (HB0.out.alloc HB0.out.size _).grown hg2 (by simp <;> omega) (by rintro k ⟨⟩; omega)
  have HT2 : Hid (TI w2 (w.heap.size + 1 + 1) me [] [] (w.heap.size + 2)) := ⟨⟨_, _, hN2, IdsR.nil w2, IdsR.nil w2, fun _ _ _ _ h => (by simp at h), fun _ _ _ _ h => (by simp at h)⟩, fun x hx => by simp at hx, fun x hx => by simp at hx, [], Near.nil _, Near.nil _⟩
  have HR2 : Hid (NT w2 (w.heap.size + 1) zero16 (.slice none 0 0) (.slice none 0 0)) := by
    have h1 := HR0.out.later ((Below.refl _ _).alloc (Nat.le_refl _) (.cells (ntC zero16 (.slice none 0 0) (.slice none 0 0)).toArray 30))
    show w2.heap[w.heap.size + 1]? = _
    rw [hg2.block (w.heap.size + 1) h1.lt (by simp)]
    exact h1
  clear hN2 hg2 HNZ HR0 HM0 HB0
  go_loopw [13] (fun u wr => ∃ (j : Nat) (p s : List (List Int)), u = .int .i64 j ∧ j ≤ n ∧ Hid (TI wr (w.heap.size + 1 + 1) me p s (w.heap.size + 2) ∧ NT wr (w.heap.size + 1) zero16 (.slice none 0 0) (.slice none 0 0) ∧ Below w.heap.size w wr)) (fun u wr => (n - intOf u).toNat)
  case atStart => exact ⟨0, [], [], rfl, Nat.zero_le _, HT2.out, HR2.out, HB2.out⟩
  case round =>
    obtain ⟨j, p, s, rfl, hjn, HH⟩ := hrel
    by_cases hlt : j < n
    · have hlt' : (j : Int) < (n : Int) := by omega
      obtain ⟨z, hzj⟩ : ∃ z, zs[j]? = some z := ⟨_, List.getElem?_eq_getElem (by have := HN.out; omega)⟩
      have hzo := hz z (List.mem_of_getElem? hzj)
      obtain ⟨b, o, ea, hb, hcells⟩ := HI.out (by have := HN.out; omega)
      subst ea
      obtain ⟨k0, k1, k2⟩ := hcells j z hzj
      have c0 : wr.cell? ⟨b, o + j * 3, none⟩ = some (.int .u64 z.hi) := by rw [HH.out.2.2.cell (p := ⟨b, o + j * 3, none⟩) hb]; exact k0
      have c1 : wr.cell? ⟨b, o + j * 3 + 1, none⟩ = some (.int .u64 z.lo) := by rw [HH.out.2.2.cell (p := ⟨b, o + j * 3 + 1, none⟩) hb]; exact k1
      have c2 : wr.cell? ⟨b, o + j * 3 + 2, none⟩ = some (.bool z.rm) := by rw [HH.out.2.2.cell (p := ⟨b, o + j * 3 + 2, none⟩) hb]; exact k2
      clear k0 k1 k2 hcells hzj
      obtain ⟨⟨h0, h1⟩, l0, l1⟩ := hzo
      have hbl : (wr.alloc (.cells #[.int .u64 z.hi, .int .u64 z.lo, .bool z.rm] 73)).heap[wr.heap.size]? = some (.cells #[.int .u64 z.hi, .int .u64 z.lo, .bool z.rm] 73 (0, 0)) := heap_alloc_new wr _
      have HBL : Hid _ := hbl
      clear hbl
      go_wp2_with fail
      refine (fromWords_any z.hi z.lo h0 h1 l0 l1 _).mono ?_
      rintro e w3 ⟨rfl, hb3⟩
      have hd : IdOk (ofW z.hi z.lo) := ofW_ok h0 h1 l0 l1
      have L3 : Below wr.heap.size wr w3 := ((Below.refl _ wr).alloc (Nat.le_refl _) _).trans (hb3.mono (by simp))
      have hc3 : w3.cell? ⟨wr.heap.size, 2, none⟩ = some (.bool z.rm) := by
        rw [hb3.cell (p := ⟨wr.heap.size, 2, none⟩) (by simp), cell_of_row _ wr.heap.size 2 _ 73 (0, 0) HBL.out]
        rfl
      have hz3 : wr.heap.size < w3.heap.size := by have := hb3.size; simp at this; omega
      have HL3 : Hid (Below wr.heap.size wr w3) := L3
      have HC3 : Hid (w3.cell? ⟨wr.heap.size, 2, none⟩ = some (.bool z.rm) ∧ wr.heap.size < w3.heap.size) := ⟨hc3, hz3⟩
      clear hb3 L3 hc3 hz3 HBL c0 c1 c2
      generalize ofW z.hi z.lo = d at *
      unfold idv
      go_wp2_with (first | (refine wpList_store_id rfl (.tmp 8) (.tmp 21) rfl _ rfl d hd.1 rfl zero16 rfl (Blk.new w3 zero16) ?_; intro w4 hB4 hg4; have L4 : Below w3.heap.size w3 w4 := ((Below.refl _ w3).alloc (Nat.le_refl _) _).grown hg4 (by simp) (by rintro k ⟨⟩; exact Nat.le_refl _); have HB4 : Hid (Blk w4 w3.heap.size d) := hB4; have HL4 : Hid (Below wr.heap.size wr w4) := HL3.out.trans (L4.mono HL3.out.size); have c24 : w4.cell? ⟨wr.heap.size, 2, none⟩ = some (.bool z.rm) := (by rw [L4.cell (p := ⟨wr.heap.size, 2, none⟩) HC3.out.2]; exact HC3.out.1); clear hB4 hg4 L4) | (refine wpList_load_id rfl (.tmp 8) rfl _ rfl d hd.1 HB4.out ?_) | (go_at_call 30; refine (remove_any (w.heap.size + 1 + 1) me d p s hm hd w4 (w.heap.size + 2) (by have := (HH.out.1.later HL4.out).lt; omega) (HH.out.1.later HL4.out)).mono ?_; rintro e w5 ⟨⟨bb, rfl⟩, ⟨p', s', hT5⟩, hg5⟩; have HT5 : Hid (TI w5 (w.heap.size + 1 + 1) me p' s' (w.heap.size + 2) ∧ w4.grownBy w5 (some (w.heap.size + 1 + 1))) := ⟨hT5, hg5⟩; clear hT5 hg5) | (go_at_call 20; refine (add_any (w.heap.size + 1 + 1) me d p s hm hd w4 (w.heap.size + 2) (by have := (HH.out.1.later HL4.out).lt; omega) (HH.out.1.later HL4.out)).mono ?_; rintro e w5 ⟨⟨p', s', hT5, hcase⟩, hg5⟩; have HT5 : Hid (TI w5 (w.heap.size + 1 + 1) me p' s' (w.heap.size + 2) ∧ w4.grownBy w5 (some (w.heap.size + 1 + 1))) := ⟨hT5, hg5⟩; obtain ⟨bb, rfl⟩ : ∃ bb, e = .returned (.bool bb) := (by rcases hcase with ⟨_, h, _⟩ | ⟨_, _, _, h⟩; exact ⟨_, h⟩; exact ⟨_, h⟩); clear hT5 hg5 hcase))
      all_goals
        go_roundw
        case rel =>
          have h4 := HH.out.2.2.trans (HL4.out.mono HH.out.2.2.size)
          have hN4 := HH.out.2.1.later HL4.out
          refine ⟨j + 1, p', s', by simp, by omega, HT5.out.1, ?_, h4.grown HT5.out.2 h4.size (by rintro k ⟨⟩; omega)⟩
          show w5.heap[w.heap.size + 1]? = _
          rw [HT5.out.2.block _ hN4.lt (by simp)]
          exact hN4
        case measure => simp [intOf]; omega
    · have hlt' : ¬ (j : Int) < (n : Int) := by omega
      obtain ⟨⟨vp, vs, hN, hP, hS, hk1, hk2⟩, hp, hs, hnear⟩ := HH.out.1
      obtain ⟨p1, c1, e1, hP2⟩ := id hP
      obtain ⟨p2, c2, e2, hS2⟩ := id hS
      subst e1
      subst e2
      have HNN : Hid (NT wr (w.heap.size + 1 + 1) me (.slice p1 p.length c1) (.slice p2 s.length c2)) := hN
      have HPS : Hid (IdsR wr (.slice p1 p.length c1) p ∧ IdsR wr (.slice p2 s.length c2) s ∧ IsOk p ∧ IsOk s ∧ ∃ X, Near (kd me false) X p ∧ Near (kd me true) X s) := ⟨hP, hS, hp, hs, hnear⟩
      have HRR : Hid (NT wr (w.heap.size + 1) zero16 (.slice none 0 0) (.slice none 0 0)) := HH.out.2.1
      have HK1 : Hid (∀ b o n c, Value.slice p1 p.length c1 = .slice (some ⟨b, o, none⟩) n c → w.heap.size + 2 ≤ b) := hk1
      have HK2 : Hid (∀ b o n c, Value.slice p2 s.length c2 = .slice (some ⟨b, o, none⟩) n c → w.heap.size + 2 ≤ b) := hk2
      clear hN hP hS hp hs hnear hP2 hS2 hk1 hk2
      generalize p.length = np at *
      generalize s.length = ns at *
      go_wp2_with (first | (refine wpList_load_mid rfl 30 (.tmp 5) rfl _ _ rfl (ntC me (.slice p1 np c1) (.slice p2 ns c2)) _ HNN.out.row Yba.underlying30 rfl (by rw [info30, nt_len hm.1]) ?_) | (refine wpList_store_nt rfl (.tmp 4) (.tmp 29) rfl _ rfl me hm.1 p1 p2 np c1 ns c2 rfl zero16 rfl (.slice none 0 0) (.slice none 0 0) HRR.out ?_; intro w7 hN7 hg7))
      refine bodyPost_ret (v := .agg (ntC me (.slice p1 np c1) (.slice p2 ns c2)).toArray) (results_cell_row Yba.results14 _ _ (w.heap.size + 1) 30 _ (0, 0) _ rfl hN7 Yba.underlying30 rfl (by rw [info30]; simp [nt_len hm.1, cellsId, hm.1])) rfl ?_
      have hI1 : IdsR w7 (.slice p1 np c1) p := HPS.out.1.same hg7 (fun b o n c hv _ => by have := HK1.out b o n c hv; simp; omega)
      have hI2 : IdsR w7 (.slice p2 ns c2) s := HPS.out.2.1.same hg7 (fun b o n c hv _ => by have := HK2.out b o n c hv; simp; omega)
      exact ⟨p, s, p1, np, c1, p2, ns, c2, rfl, ⟨hI1, hI2, HPS.out.2.2⟩, HH.out.2.2.grown hg7 HH.out.2.2.size (by rintro k ⟨⟩; omega)⟩
end Go.Proofs.Ybulkadlc
