import Derived.Test.YbulkadlcIns
namespace Go.Proofs.Ybulkadlc
open Go.RowKit Go.QuietTail
set_option linter.unusedVariables false
set_option linter.unusedSimpArgs false
theorem zeroCells_len (m : Nat) : (Builtin.zeroCells zeroF.cells m).size = m * 17 := by simp [Builtin.zeroCells, zeroF_size]

def ZApp (w : World) (g k cap n N G : Nat) (W1 : World) : Prop := ∀ ty, (Builtin.append_ #[31, 3] ty #[.slice (some ⟨g, 0, none⟩) k cap, .int .i64 ((n : Int) + 1 - (k : Int))]).run Yba.prog w = .ok (.slice (some ⟨N, 0, none⟩) (n + 1) G) W1
set_option maxHeartbeats 2000000 in
set_option maxRecDepth 100000 in
theorem insert_grow (g cap n : Nat) (cur : List Value) (l : List Fg) (k : Nat) (x : Fg) (vb : Nat) (w : World) (hok : FOk l) (hx : FgOk x) (hln : l.length = n) (hk : k < n) (hl : n ≤ 1024) (hg : w.heap[g]? = some (.cells cur.toArray 65 (0, 0)))
    (htk : cur.take (n * 17) = flatF l) (hnc : n ≤ cap) (hroom : cap < n + 1) (hV : One w vb x) :
    Calls Yba.prog 25 #[.slice (some ⟨g, 0, none⟩) n cap, .int .i64 k, .slice (some ⟨vb, 0, none⟩) 1 1] w fun e w' => ∃ (G : Nat) (Z : List Value), e = .returned (.slice (some ⟨w.heap.size, 0, none⟩) (n + 1) G) ∧ n + 1 ≤ G ∧ G ≤ maxLen ∧ Z.length = G * 17 ∧
      Z.take (k * 17) = flatF (l.take k) ∧ w'.heap[w.heap.size]? = some (.cells (splice (splice Z (k * 17) (cellsF x)) ((k + 1) * 17) (flatF (l.drop k))).toArray 65 (0, 0)) ∧ w.grownBy w' none := by
  obtain ⟨i0, hi0, hz0, hz1, hz2'⟩ := info_parts info65z
  have hz2 : ¬ ((k : Int) = (n : Int)) := by omega
  have hw1 : IntKind.i64.wrap ((k : Int) + 1) = (k : Int) + 1 := by rw [IntKind.wrap_i64]; omega
  have hb1 : (0 : Int) ≤ (k : Int) + 1 := by omega
  have hin : k ≤ n := by omega
  have htn : ((k : Int) + 1).toNat = k + 1 := by omega
  have hb3 : (k : Int) ≤ (n : Int) + 1 := by omega
  have hb4 : ¬ (cap = k) := by omega
  have hkk : (n : Int) + 1 - (k : Int) = ((n + 1 - k : Nat) : Int) := by omega
  have hik : k + (n + 1 - k) = n + 1 := by omega
  have hokt : FOk (l.take k) := fun y hy => hok y (List.mem_of_mem_take hy)
  have htl : (flatF (l.take k)).length = k * 17 := by rw [flatF_len hokt, List.length_take, hln, Nat.min_eq_left (by omega)]
  have hold : (Builtin.firstCells i0.size k (.slice (some ⟨g, 0, none⟩) k cap)).run Yba.prog w.drew = .ok (flatF (l.take k)).toArray w.drew := by
    rw [hz1]
    refine run_firstCells_some w.drew 17 k ⟨g, 0, none⟩ k cap (flatF (l.take k)) htl (fun j v hj => ?_)
    rw [Addr.add_mid, Nat.zero_add]
    rw [cell_of_row w.drew g j _ 65 (0, 0) hg]
    have : (flatF l)[j]? = some v := by
      rw [← flatF_take hok k, List.getElem?_take] at hj
      split at hj
      · exact hj
      · cases hj
    rw [← htk, List.getElem?_take] at this
    split at this
    · simpa using this
    · cases this
  have hrz : ∀ ty, (Builtin.append_ #[31, 3] ty #[.slice (some ⟨g, 0, none⟩) k cap, .int .i64 ((n : Int) + 1 - (k : Int))]).run Yba.prog w =
      .ok (.slice (some ⟨w.heap.size, 0, none⟩) (n + 1) (grownCap w (n + 1) cap 65)) (w.drew.alloc (.cells ((flatF (l.take k)).toArray ++ Builtin.zeroCells zeroF.cells (n + 1 - k) ++ Builtin.zeroCells zeroF.cells (grownCap w (n + 1) cap 65 - (n + 1))) 65)) := fun ty => by
    have h := Lib.run_append_grow_zeros w 31 3 ty 65 i0 zeroF .i64 .i64 Yba.underlying31 Yba.underlying3 hi0 hz0 (some ⟨g, 0, none⟩) k cap (flatF (l.take k)) hold (n + 1 - k) (by omega) (by omega) (by omega) (by omega) (by rw [hz2']; omega) (by rw [hz2', hik]; exact growslice_fits hroom (by omega))
    rw [hik] at h
    rw [hkk]
    exact h
  obtain ⟨G, hG⟩ : ∃ G, G = grownCap w (n + 1) cap 65 := ⟨_, rfl⟩
  rw [← hG] at hrz
  have hGn : n + 1 ≤ G := by rw [hG]; exact grownCap_ge w _ _ _
  have hGm : G ≤ maxLen := by rw [hG]; exact grownCap_le_maxLen w _ _ _ (by unfold maxLen; omega)
  clear hG
  have hG63 : G ≤ 9223372036854775807 := by unfold maxLen at hGm; omega
  obtain ⟨Z, hZ⟩ : ∃ Z : List Value, Z = ((flatF (l.take k)).toArray ++ Builtin.zeroCells zeroF.cells (n + 1 - k) ++ Builtin.zeroCells zeroF.cells (G - (n + 1))).toList := ⟨_, rfl⟩
  have hZl : Z.length = G * 17 := by
    rw [hZ, Array.length_toList, Array.size_append, Array.size_append, zeroCells_len, zeroCells_len, List.size_toArray, htl]
    omega
  have hZt : Z.take (k * 17) = flatF (l.take k) := by
    rw [hZ, Array.toList_append, Array.toList_append, List.append_assoc, List.take_append_of_le_length (by rw [List.toList_toArray, htl]; exact Nat.le_refl _)]
    rw [List.toList_toArray, ← htl, List.take_length]
  have hZa : ((flatF (l.take k)).toArray ++ Builtin.zeroCells zeroF.cells (n + 1 - k) ++ Builtin.zeroCells zeroF.cells (G - (n + 1))) = Z.toArray := by rw [hZ]
  rw [hZa] at hrz
  clear hZ hZa hold htl
  obtain ⟨W1, hW1⟩ : ∃ W1, W1 = w.drew.alloc (.cells Z.toArray 65) := ⟨_, rfl⟩
  rw [← hW1] at hrz
  obtain ⟨N, hN⟩ : ∃ N, N = w.heap.size := ⟨_, rfl⟩
  rw [← hN] at hrz ⊢
  have HG1 : Hid (W1.heap[N]? = some (.cells Z.toArray 65 (0, 0))) := by show _ = _; rw [hW1, hN]; exact heap_alloc_new w.drew _
  have HB1 : Hid (w.grownBy W1 none) := by
    show w.grownBy W1 none
    rw [hW1]
    exact grownBy_of_below (((Below.refl _ w).drew).alloc (Nat.le_refl _) _) none
  have HV1 : Hid (One W1 vb x) := by
    show W1.heap[vb]? = _
    rw [HB1.out.block vb hV.lt (by simp)]
    exact hV
  have hgN : g ≠ N := by rw [hN]; have := (Array.getElem?_eq_some_iff.1 hg).1; omega
  have hvN : vb ≠ N := by rw [hN]; have := hV.lt; omega
  have HGg : Hid (W1.heap[g]? = some (.cells cur.toArray 65 (0, 0))) := by
    show _ = _
    rw [HB1.out.block g (Array.getElem?_eq_some_iff.1 hg).1 (by simp)]
    exact hg
  have HL : Hid (l.length = n) := hln
  have HT : Hid (cur.take (n * 17) = flatF l) := htk
  have HFL : Hid ((flatF (l.drop k)).length = (n - k) * 17) := by
    show _ = _
    rw [flatF_len (fun y hy => hok y (List.mem_of_mem_drop hy)), List.length_drop, hln]
  have HZl : Hid (Z.length = G * 17) := hZl
  have HZt : Hid (Z.take (k * 17) = flatF (l.take k)) := hZt
  have hGi : ¬ (G = k) := by omega
  have hGim : ¬ (G = k + 1) := by omega
  have hb5 : (k : Int) + 1 ≤ (n : Int) + 1 := by omega
  have HNN : Hid (N = w.heap.size) := hN
  clear hg hV hln htk hZl hZt hW1 hN
  have HF1 : Hid (k * 17 + (cellsF x).length ≤ Z.length) := by
    show _ ≤ _
    rw [cellsF_len hx, HZl.out]
    omega
  have HN1 : Hid ((cellsF x).length = Nat.min 1 (n + 1 - k) * 17) := by
    show _ = _
    rw [cellsF_len hx, show Nat.min 1 (n + 1 - k) = 1 by simp only [Nat.min_def]; split <;> omega]
  obtain ⟨Z2, hZ2⟩ : ∃ Z2, Z2 = splice Z (k * 17) (cellsF x) := ⟨_, rfl⟩
  obtain ⟨D, hD⟩ : ∃ D, D = flatF (l.drop k) := ⟨_, rfl⟩
  have HD1 : Hid (∀ v ∈ D, v.oneCell' = true) := by show ∀ v ∈ D, v.oneCell' = true; rw [hD]; exact flatF_one _
  have HZ2 : Hid (Z2 = splice Z (k * 17) (cellsF x)) := hZ2
  have HDD : Hid (D = flatF (l.drop k)) := hD
  rw [← hD] at HFL
  clear hD hZ2
  have HZ2l : Hid (Z2.length = G * 17) := by
    show _ = _
    rw [HZ2.out, length_splice _ _ _ HF1.out, HZl.out]
  have HF2 : Hid ((k + 1) * 17 + D.length ≤ Z2.length) := by
    show _ ≤ _
    rw [HFL.out, HZ2l.out]
    omega
  have HN2 : Hid (D.length = Nat.min (n - k) (n - k) * 17) := by
    show _ = _
    rw [HFL.out, show Nat.min (n - k) (n - k) = n - k by simp [Nat.min_def]]
  have HRZ : ZApp w g k cap n N G W1 := hrz
  clear hrz hi0 hz0 hz1 hz2' hokt  hkk hik
  go_enter Yba.func25, Yba.ntmps25
  go_wp2_with (first | (at_builtin; refine Lib.wpList_append_run _ rfl (.tmp 34) (.tmp 39) 31 3 rfl _ _ rfl rfl _ _ (HRZ _) ?_) | (refine wpList_copy_k rfl (.tmp 43) (.tmp 44) 31 31 rfl 17 65 Yba.underlying31 info65s N (k * 17) (n + 1 - k) (G - k) ⟨vb, 0, none⟩ 1 1 rfl rfl Z 65 HG1.out (cellsF x) HN1.out HV1.out.cells HF1.out (cellsF_one x) ?_; intro w2 hg2 hgr2))
  have hg2' : Hid (w2.heap[N]? = some (.cells Z2.toArray 65 (0, 0))) := by rw [HZ2.out]; exact hg2
  have HS2 : Hid (∀ j u, D[j]? = some u → w2.cell? ((⟨g, k * 17, none⟩ : Addr).add j) = some u) := by
    have h2 : w2.heap[g]? = some (.cells cur.toArray 65 (0, 0)) := by
      rw [hgr2.block g (Array.getElem?_eq_some_iff.1 HGg.out).1 (by simpa using hgN)]
      exact HGg.out
    show ∀ j u, _
    rw [HDD.out]
    exact row_cells h2 l hok (by rw [HL.out]; exact HT.out) k (by have := HL.out; omega)
  have HGR2 : Hid (w.grownBy w2 none) := by
    refine ⟨hgr2.os.trans HB1.out.os, hgr2.tape.trans HB1.out.tape, hgr2.output.trans HB1.out.output, Nat.le_trans HB1.out.size hgr2.size, fun j hj _ => ?_⟩
    rw [hgr2.block j (Nat.lt_of_lt_of_le hj HB1.out.size) (by rw [HNN.out]; simp; omega)]
    exact HB1.out.block j hj (by simp)
  clear hg2 hgr2
  go_region_law ((refine step_copy_k rfl (.tmp 50) (.tmp 53) 31 31 rfl 17 65 Yba.underlying31 info65s N ((k + 1) * 17) (n - k) (G - (k + 1)) ⟨g, k * 17, none⟩ (n - k) (cap - k) (by simp [Act.eval, Act.put]) (by simp [Act.eval, Act.put]) Z2 65 hg2'.out D HN2.out HS2.out HF2.out HD1.out ?_; intro w3 hg3 hgr3))
  go_wp2
  go_ret
  refine ⟨G, Z, rfl, hGn, hGm, HZl.out, HZt.out, ?_, ?_⟩
  · rw [← HZ2.out, ← HDD.out]; exact hg3.out
  · refine ⟨hgr3.os.trans HGR2.out.os, hgr3.tape.trans HGR2.out.tape, hgr3.output.trans HGR2.out.output, Nat.le_trans HGR2.out.size hgr3.size, fun j hj _ => ?_⟩
    rw [hgr3.block j (Nat.lt_of_lt_of_le hj HGR2.out.size) (by rw [HNN.out]; simp; omega)]
    exact HGR2.out.block j hj (by simp)

theorem splice_room (cur A X D : List Value) (a x : Nat) (hA : cur.take a = A) (hAl : A.length = a) (hx : X.length = x) (hc : a + x ≤ cur.length) :
    splice (splice cur (a + x) D) a X = A ++ (X ++ (D ++ cur.drop (a + x + D.length))) := by
  have e1 : (splice cur (a + x) D).take a = A := by
    unfold splice
    rw [List.take_append_of_le_length (by rw [List.length_take]; omega), List.take_take, Nat.min_eq_left (by omega), hA]
  have e2 : (splice cur (a + x) D).drop (a + X.length) = D ++ cur.drop (a + x + D.length) := by
    unfold splice
    have hl : (cur.take (a + x)).length = a + x := by rw [List.length_take]; omega
    rw [hx]
    exact List.drop_left' hl
  conv => lhs; unfold splice
  rw [show (List.take (a + x) cur ++ (D ++ List.drop (a + x + D.length) cur)) = splice cur (a + x) D from rfl, e1, e2]
theorem splice_grow (Z A X D : List Value) (a x : Nat) (hA : Z.take a = A) (hAl : A.length = a) (hx : X.length = x) (hc : a + x ≤ Z.length) :
    splice (splice Z a X) (a + x) D = A ++ (X ++ (D ++ (splice Z a X).drop (a + x + D.length))) := by
  have e1 : (splice Z a X).take (a + x) = A ++ X := by
    unfold splice
    rw [hA, ← List.append_assoc, List.take_append_of_le_length (by rw [List.length_append]; omega)]
    exact List.take_of_length_le (by rw [List.length_append]; omega)
  conv => lhs; unfold splice
  rw [show (List.take a Z ++ (X ++ List.drop (a + X.length) Z)) = splice Z a X from rfl, e1, List.append_assoc]
theorem take_row (A X D R : List Value) (m : Nat) (h : A.length + X.length + D.length = m) : (A ++ (X ++ (D ++ R))).take m = A ++ (X ++ D) := by
  have e : A ++ (X ++ (D ++ R)) = (A ++ (X ++ D)) ++ R := by simp
  rw [e, List.take_append_of_le_length (by simp; omega)]
  exact List.take_of_length_le (by simp; omega)
theorem flatF_ins (l : List Fg) (k : Nat) (x : Fg) : flatF (l.take k ++ x :: l.drop k) = flatF (l.take k) ++ (cellsF x ++ flatF (l.drop k)) := by
  rw [flatF_append, flatF]
theorem len_ins (l : List Fg) (k : Nat) (x : Fg) (hk : k ≤ l.length) : (l.take k ++ x :: l.drop k).length = l.length + 1 := by simp; omega

theorem insert_any (B : Nat) (vf : Value) (l : List Fg) (k : Nat) (x : Fg) (vb : Nat) (w : World) (hok : FOk l) (hx : FgOk x) (hk : k ≤ l.length) (hl : l.length ≤ 1024) (hT : Tab w B vf l) (hB : B ≤ w.heap.size) (hV : One w vb x) (hne : vf.ownBlock ≠ some vb) :
    Calls Yba.prog 25 #[vf, .int .i64 k, .slice (some ⟨vb, 0, none⟩) 1 1] w fun e w' => ∃ vf', e = .returned vf' ∧ Tab w' B vf' (l.take k ++ x :: l.drop k) ∧ w.grownBy w' vf.ownBlock := by
  by_cases hke : k = l.length
  · subst hke
    refine (insert_end B vf l x vb w hok hx hl hT hB hV).mono ?_
    rintro e w' ⟨vf', h1, h2, h3⟩
    refine ⟨vf', h1, ?_, h3⟩
    simpa using h2
  · rcases hT.2 with ⟨hv, hn⟩ | ⟨g, cap, cur, hv, hBg, hg, hnc, hcm, hcs, htk⟩
    · omega
    · subst hv
      have hcl : cur.toList.length = cap * 17 := by simpa using hcs
      have hg' : w.heap[g]? = some (.cells cur.toList.toArray 65 (0, 0)) := by simpa using hg
      have hokt : FOk (l.take k) := fun y hy => hok y (List.mem_of_mem_take hy)
      have hokd : FOk (l.drop k) := fun y hy => hok y (List.mem_of_mem_drop hy)
      have hAl : (flatF (l.take k)).length = k * 17 := by rw [flatF_len hokt, List.length_take]; congr 1; omega
      have hDl : (flatF (l.drop k)).length = (l.length - k) * 17 := by rw [flatF_len hokd, List.length_drop]
      have hX := cellsF_len hx
      by_cases hroom : l.length + 1 ≤ cap
      · refine (insert_room g cap l.length cur.toList l k x vb w hok hx rfl (by omega) hl hg' hcl htk hroom (by unfold maxLen at hcm; omega) hV (fun e => hne (by rw [e]; rfl))).mono ?_
        rintro e w' ⟨h1, h2, h3⟩
        refine ⟨_, h1, ?_, h3⟩
        have hA : cur.toList.take (k * 17) = flatF (l.take k) := by
          rw [← flatF_take hok k, ← htk, List.take_take, Nat.min_eq_left (by omega)]
        have key := splice_room cur.toList (flatF (l.take k)) (cellsF x) (flatF (l.drop k)) (k * 17) 17 hA hAl hX (by omega)
        rw [show k * 17 + 17 = (k + 1) * 17 by omega] at key
        refine ⟨?_, .inr ⟨g, cap, _, ?_, hBg, h2, ?_, hcm, ?_, ?_⟩⟩
        · rw [flatF_ins, len_ins l k x (by omega), List.length_append, List.length_append, hAl, hX, hDl]; omega
        · rw [len_ins l k x (by omega)]
        · rw [len_ins l k x (by omega)]; exact hroom
        · rw [List.size_toArray, length_splice _ _ _ (by rw [length_splice _ _ _ (by omega)]; omega), length_splice _ _ _ (by omega), hcl]
        · rw [len_ins l k x (by omega), flatF_ins, List.toList_toArray, key]
          exact take_row _ _ _ _ _ (by omega)
      · refine (insert_grow g cap l.length cur.toList l k x vb w hok hx rfl (by omega) hl hg' htk hnc (by omega) hV).mono ?_
        rintro e w' ⟨G, Z, h1, hG, hGm, hZl, hZt, h2, h3⟩
        refine ⟨_, h1, ?_, grownBy_weak h3 _⟩
        have key := splice_grow Z (flatF (l.take k)) (cellsF x) (flatF (l.drop k)) (k * 17) 17 hZt hAl hX (by omega)
        rw [show k * 17 + 17 = (k + 1) * 17 by omega] at key
        refine ⟨?_, .inr ⟨w.heap.size, G, _, ?_, hB, h2, ?_, hGm, ?_, ?_⟩⟩
        · rw [flatF_ins, len_ins l k x (by omega), List.length_append, List.length_append, hAl, hX, hDl]; omega
        · rw [len_ins l k x (by omega)]
        · rw [len_ins l k x (by omega)]; exact hG
        · rw [List.size_toArray, length_splice _ _ _ (by rw [length_splice _ _ _ (by omega)]; omega), length_splice _ _ _ (by omega), hZl]
        · rw [len_ins l k x (by omega), flatF_ins, List.toList_toArray, key]
          exact take_row _ _ _ _ _ (by omega)
end Go.Proofs.Ybulkadlc
