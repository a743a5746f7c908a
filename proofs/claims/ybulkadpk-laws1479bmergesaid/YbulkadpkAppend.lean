import Derived.Test.YbulkadpkEq
namespace Go.Proofs.Ybulkadpk
open Go.RowKit Go.QuietTail Go.Shelf
set_option linter.unusedVariables false
set_option linter.unusedSimpArgs false

/-- The union of two sets, the second's values winning: as AppendWith takes them. -/
def mrg : List Lab → List Lab → List Lab
  | [], o => o
  | x :: l, [] => x :: l
  | x :: l, y :: o => if x.1 < y.1 then x :: mrg l (y :: o) else if y.1 < x.1 then y :: mrg (x :: l) o else y :: mrg l o
termination_by l o => l.length + o.length

theorem slice_from {w : World} {a : Option Addr} {c : Nat} {l : List Lab} {p : Nat → Prop} (h : LabsAt w a c l p) (j : Nat) (hj : j ≤ l.length) :
    ∃ ad, (∀ w', Sem.run Yba.prog (Instr.slice 25 (.slice a l.length c) (some (.int .i64 (j : Int))) none none) w' = .ok (.slice ad (l.length - j) (c - j)) w') ∧ (ad = none → l.length - j = 0 ∧ c - j = 0) ∧
      (∀ x, ad = some x → ∀ k u, (flat (l.drop j))[k]? = some u → w.cell? (x.add k) = some u) := by
  rcases h with ⟨rfl, rfl, rfl⟩ | ⟨b, o, rfl, _, _, hc, hcm, H⟩
  · obtain rfl : j = 0 := by simpa using hj
    refine ⟨none, fun w' => ?_, by simp, by simp⟩
    go_simp
  · have g0 : (0 : Int) ≤ j := by omega
    have g1 : (j : Int) ≤ (l.length : Int) := by omega
    have g2 : (l.length : Int) ≤ (c : Int) := by omega
    have g3 : (j : Int) ≤ (c : Int) := by omega
    have hflat : ∀ k u, (flat (l.drop j))[k]? = some u → w.cell? ⟨b, o + j * 2 + k, none⟩ = some u := by
      intro k u hu
      have hk : k / 2 < (l.drop j).length := by
        rcases Nat.lt_or_ge k ((l.drop j).length * 2) with h | h
        · omega
        · rw [List.getElem?_eq_none (by rw [flat_length]; exact h)] at hu; cases hu
      have hx : (l.drop j)[k / 2]? = some ((l.drop j)[k / 2]'hk) := List.getElem?_eq_getElem hk
      obtain ⟨e1, e2⟩ := flat_get _ _ _ hx
      rw [List.getElem?_drop] at hx
      obtain ⟨c1, c2⟩ := H _ _ hx
      rcases Nat.mod_two_eq_zero_or_one k with hm | hm
      · rw [show k = k / 2 * 2 by omega, e1] at hu
        cases hu
        rw [← c1]; congr 2; omega
      · rw [show k = k / 2 * 2 + 1 by omega, e2] at hu
        cases hu
        rw [← c2]; congr 2; omega
    by_cases hcj : c = j
    · have hl : l.length = j := by omega
      have hd : l.drop j = [] := List.drop_eq_nil_of_le (by omega)
      refine ⟨some ⟨b, o, none⟩, fun w' => ?_, by simp, ?_⟩
      · rw [hl, hcj]
        go_simp
      · rw [hd]; simp [flat]
    · refine ⟨some ⟨b, o + j * 2, none⟩, fun w' => ?_, by simp, ?_⟩
      · go_simp
      · rintro x hx k u hu
        cases hx
        have := hflat k u hu
        cases k with
        | zero => simpa [Addr.add] using this
        | succ k => simpa [Addr.add] using this

theorem mrg_nil_left (o : List Lab) : mrg [] o = o := by rw [mrg]
theorem mrg_nil_right (l : List Lab) : mrg l [] = l := by cases l <;> rw [mrg]
theorem mrg_len (l o : List Lab) : (mrg l o).length ≤ l.length + o.length := by
  induction l, o using mrg.induct with
  | case1 o => rw [mrg]; simp
  | case2 x l => rw [mrg]; simp
  | case3 x l y o h ih => rw [mrg, if_pos h]; simp at *; omega
  | case4 x l y o h1 h2 ih => rw [mrg, if_neg h1, if_pos h2]; simp at *; omega
  | case5 x l y o h1 h2 ih => rw [mrg, if_neg h1, if_neg h2]; simp at *; omega

def Small (l : List Lab) : Prop := ∀ x ∈ l, x.1 < 8

theorem compare_at (a b : ByteArray) (w : World) (n : Nat) :
    Calls Yba.prog 18 #[.string a, .string b] (w.drewN n) fun e w' => e = .returned (.int .i64 (Lib.compareBytes a.data.toList b.data.toList)) ∧ ∃ m, w' = w.drewN m :=
  (compare_any a b (w.drewN n)).mono fun _ _ ⟨he, hw⟩ => ⟨he, n, hw⟩

theorem flat_one (l : List Lab) : ∀ u ∈ flat l, u.oneCell' = true := by
  intro u hu
  simp only [flat, List.mem_flatMap] at hu
  obtain ⟨x, _, hu⟩ := hu
  simp at hu
  rcases hu with rfl | rfl <;> rfl
theorem grownBy_trans {a b c : World} {row : Option Nat} (h : a.grownBy b row) (k : b.grownBy c row) : a.grownBy c row :=
  ⟨k.os.trans h.os, k.tape.trans h.tape, k.output.trans h.output, Nat.le_trans h.size k.size, fun i hi hne => (k.block i (Nat.lt_of_lt_of_le hi h.size) hne).trans (h.block i hi hne)⟩
theorem grownBy_drewN (w : World) (n : Nat) (row : Option Nat) : w.grownBy (w.drewN n) row := ⟨rfl, rfl, rfl, Nat.le_refl _, fun _ _ _ => rfl⟩
theorem grownBy_of_below {a b : World} (h : Below a.heap.size a b) (row : Option Nat) : a.grownBy b row := ⟨h.os, h.tape, h.output, h.size, fun i hi _ => h.block i hi⟩

set_option maxHeartbeats 2000000 in
set_option maxRecDepth 20000 in
theorem append_any (a a' : Option Addr) (c c' : Nat) (L O D : List Lab) (p p' : Nat → Prop) (B g C n : Nat) (w : World) (hL : LabsAt w a c L p) (hO : LabsAt w a' c' O p') (sL : Small L) (sO : Small O) (hp : ∀ b, p b → b ≠ g) (hp' : ∀ b, p' b → b ≠ g)
    (hown : w.ownsRow B 36 2 (.slice (some ⟨g, 0, none⟩) n C) n (flat D)) (hn : n = D.length) (hC : n + L.length + O.length ≤ C) (hCm : C ≤ 1000000) :
    Calls Yba.prog 15 #[.slice a L.length c, .slice (some ⟨g, 0, none⟩) n C, .slice a' O.length c'] w fun e w' => e = .returned (.slice (some ⟨g, 0, none⟩) (n + (mrg L O).length) C) ∧
      w'.ownsRow B 36 2 (.slice (some ⟨g, 0, none⟩) (n + (mrg L O).length) C) (n + (mrg L O).length) (flat (D ++ mrg L O)) ∧ w.grownBy w' (some g) := by
  obtain ⟨i0, hi0, hz0, hz1, hz2⟩ := info_parts info36
  obtain ⟨lL, hlL⟩ : ∃ x, x = L.length := ⟨_, rfl⟩
  obtain ⟨lO, hlO⟩ : ∃ x, x = O.length := ⟨_, rfl⟩
  have HL : Hid (LabsAt w a c L p) := hL
  have HO : Hid (LabsAt w a' c' O p') := hO
  have HP : Hid ((∀ b, p b → b ≠ g) ∧ (∀ b, p' b → b ≠ g) ∧ Small L ∧ Small O) := ⟨hp, hp', sL, sO⟩
  have HW : Hid (w.ownsRow B 36 2 (.slice (some ⟨g, 0, none⟩) n C) n (flat D)) := hown
  have HN : Hid (n = D.length) := hn
  have HlL : Hid (lL = L.length) := hlL
  have HlO : Hid (lO = O.length) := hlO
  rw [← hlL, ← hlO] at hC ⊢
  clear hL hO hown hp hp' sL sO hn hlL hlO
  go_enter Yba.func15, Yba.ntmps15
  go_wp2
  go_loopw [8, 9, 7] (fun vi vj vo wr => ∃ (i j k : Nat) (E : List Lab), i ≤ lL ∧ j ≤ lO ∧ vi = .int .i64 i ∧ vj = .int .i64 j ∧ vo = .slice (some ⟨g, 0, none⟩) k C ∧ k ≤ n + i + j ∧
    Hid (k = (D ++ E).length ∧ wr.ownsRow B 36 2 (.slice (some ⟨g, 0, none⟩) k C) k (flat (D ++ E)) ∧ E ++ mrg (L.drop i) (O.drop j) = mrg L O) ∧ Hid (w.grownBy wr (some g))) (fun vi vj _ _ => (lL - (intOf vi).toNat) + (lO - (intOf vj).toNat))
  case atStart => exact ⟨0, 0, n, [], by omega, by omega, rfl, rfl, rfl, by omega, ⟨by simpa using HN.out, by simpa using HW.out, by simp⟩, World.grownBy.refl _ _⟩
  case round =>
    obtain ⟨i, j, k, E, hi, hj, rfl, rfl, rfl, hk, HE, HG⟩ := hrel
    by_cases hlt : i < lL ∧ j < lO
    · obtain ⟨h1, h2⟩ := hlt
      have h1' : (i : Int) < (lL : Int) := by omega
      have h2' : (j : Int) < (lO : Int) := by omega
      obtain ⟨x, hx⟩ : ∃ x, L[i]? = some x := ⟨_, List.getElem?_eq_getElem (by rw [← HlL.out]; exact h1)⟩
      obtain ⟨y, hy⟩ : ∃ y, O[j]? = some y := ⟨_, List.getElem?_eq_getElem (by rw [← HlO.out]; exact h2)⟩
      have hx8 : x.1 < 8 := HP.out.2.2.1 x (List.mem_of_getElem? hx)
      have hy8 : y.1 < 8 := HP.out.2.2.2 y (List.mem_of_getElem? hy)
      have dL : Hid (L.drop i = x :: L.drop (i + 1)) := by
        obtain ⟨hlt, hxx⟩ := List.getElem?_eq_some_iff.1 hx
        rw [← hxx]; exact List.drop_eq_getElem_cons hlt
      have dO : Hid (O.drop j = y :: O.drop (j + 1)) := by
        obtain ⟨hlt, hxx⟩ := List.getElem?_eq_some_iff.1 hy
        rw [← hxx]; exact List.drop_eq_getElem_cons hlt
      obtain ⟨b, o, rfl, cx1, cx2⟩ : ∃ b o, a = some ⟨b, o, none⟩ ∧ wr.cell? ⟨b, o + i * 2, none⟩ = some (.string (nm x.1)) ∧ wr.cell? ⟨b, o + i * 2 + 1, none⟩ = some (.string x.2) := by
        rcases HL.out with ⟨_, _, rfl⟩ | ⟨b, o, e, pb, blt, _, _, H⟩
        · simp at hx
        · have hb := HG.out.block b blt (by simpa using (HP.out.1 b pb))
          exact ⟨b, o, e, (World.cell?_of_block (w := w) hb).trans (H i x hx).1, (World.cell?_of_block (w := w) hb).trans (H i x hx).2⟩
      obtain ⟨b', o', rfl, cy1, cy2⟩ : ∃ b o, a' = some ⟨b, o, none⟩ ∧ wr.cell? ⟨b, o + j * 2, none⟩ = some (.string (nm y.1)) ∧ wr.cell? ⟨b, o + j * 2 + 1, none⟩ = some (.string y.2) := by
        rcases HO.out with ⟨_, _, rfl⟩ | ⟨b, o, e, pb, blt, _, _, H⟩
        · simp at hy
        · have hb := HG.out.block b blt (by simpa using (HP.out.2.1 b pb))
          exact ⟨b, o, e, (World.cell?_of_block (w := w) hb).trans (H j y hy).1, (World.cell?_of_block (w := w) hb).trans (H j y hy).2⟩
      have OD : Hid (∀ nq o, ((wr.drewN nq).alloc o).ownsRow B 36 2 (.slice (some ⟨g, 0, none⟩) k C) k (flat (D ++ E))) := fun nq o => World.ownsRow.alloc (w := wr.drewN nq) HE.out.2.1 o
      clear hx hy
      rcases Nat.lt_trichotomy x.1 y.1 with hxy | hxy | hxy
      · have hcmp : Lib.compareBytes (nm x.1).data.toList (nm y.1).data.toList = -1 := by rw [cmp_nm x.1 y.1 hx8 hy8]; simp [hxy]
        go_wp2
        go_quiet ((go_at_call 18; refine Calls.quiet_of_same (compare_any _ _ _)))
        go_wp2_with (at_builtin; refine wpList_append_fits _ rfl (.tmp 47) (.tmp 52) 25 rfl B 36 i0 2 Yba.underlying25 hi0 hz1 g k C _ rfl (OD.out nq _) ⟨wr.heap.size, 0, none⟩ 1 1 [.string (nm x.1), .string x.2] rfl rfl ?c1 ?c2 ?c3 ?_)
        case c1 => exact cells_two_new (wr.drewN nq) _ rfl _ _ _
        case c2 => intro u hu; simp at hu; rcases hu with rfl | rfl <;> rfl
        case c3 => omega
        intro w2 hO2 hG2
        have HE2 : Hid (k + 1 = (D ++ (E ++ [x])).length ∧ w2.ownsRow B 36 2 (.slice (some ⟨g, 0, none⟩) (k + 1) C) (k + 1) (flat (D ++ (E ++ [x]))) ∧ (E ++ [x]) ++ mrg (L.drop (i + 1)) (O.drop (j)) = mrg L O) := by
          obtain ⟨q1, q2, q3⟩ := HE.out
          refine ⟨by simp at q1 ⊢; omega, ?_, ?_⟩
          · rw [← List.append_assoc, flat_append]; exact hO2
          · rw [← q3, dL.out, dO.out, mrg, if_pos hxy]
            simp [dO.out]
        have HG2 : Hid (w.grownBy w2 (some g)) := grownBy_trans HG.out (grownBy_trans (grownBy_drewN wr nq _) (grownBy_trans (World.grownBy_alloc _ _ _) hG2))
        clear hO2 hG2 HE HG OD
        go_wp2
        go_roundw
        case rel => exact ⟨i + 1, j, k + 1, E ++ [x], by omega, by omega, by simp, by simp, rfl, by omega, HE2, HG2⟩
        case measure => simp [intOf]; omega
      · have hcmp : Lib.compareBytes (nm x.1).data.toList (nm y.1).data.toList = 0 := by rw [cmp_nm x.1 y.1 hx8 hy8]; simp [hxy]
        have HXY : Hid (x.1 = y.1) := hxy
        clear hxy
        go_wp2
        go_quiet ((go_at_call 18; refine Calls.quiet_of_same (compare_any _ _ _)))
        go_wp2_with (at_builtin; refine wpList_append_fits _ rfl (.tmp 33) (.tmp 38) 25 rfl B 36 i0 2 Yba.underlying25 hi0 hz1 g k C _ rfl (OD.out nq _) ⟨wr.heap.size, 0, none⟩ 1 1 [.string (nm y.1), .string y.2] rfl rfl ?c1 ?c2 ?c3 ?_)
        case c1 => exact cells_two_new (wr.drewN nq) _ rfl _ _ _
        case c2 => intro u hu; simp at hu; rcases hu with rfl | rfl <;> rfl
        case c3 => omega
        intro w2 hO2 hG2
        have HE2 : Hid (k + 1 = (D ++ (E ++ [y])).length ∧ w2.ownsRow B 36 2 (.slice (some ⟨g, 0, none⟩) (k + 1) C) (k + 1) (flat (D ++ (E ++ [y]))) ∧ (E ++ [y]) ++ mrg (L.drop (i + 1)) (O.drop (j + 1)) = mrg L O) := by
          obtain ⟨q1, q2, q3⟩ := HE.out
          refine ⟨by simp at q1 ⊢; omega, ?_, ?_⟩
          · rw [← List.append_assoc, flat_append]; exact hO2
          · rw [← q3, dL.out, dO.out, mrg, if_neg (by have := HXY.out; omega), if_neg (by have := HXY.out; omega)]
            simp
        have HG2 : Hid (w.grownBy w2 (some g)) := grownBy_trans HG.out (grownBy_trans (grownBy_drewN wr nq _) (grownBy_trans (World.grownBy_alloc _ _ _) hG2))
        clear hO2 hG2 HE HG OD
        go_wp2
        go_roundw
        case rel => exact ⟨i + 1, j + 1, k + 1, E ++ [y], by omega, by omega, by simp, by simp, rfl, by omega, HE2, HG2⟩
        case measure => simp [intOf]; omega
      · have hcmp : Lib.compareBytes (nm x.1).data.toList (nm y.1).data.toList = 1 := by rw [cmp_nm x.1 y.1 hx8 hy8]; rw [if_neg (by omega), if_pos hxy]
        go_wp2
        go_quiet ((go_at_call 18; refine Calls.quiet_of_same (compare_any _ _ _)))
        go_wp2_with (at_builtin; refine wpList_append_fits _ rfl (.tmp 59) (.tmp 64) 25 rfl B 36 i0 2 Yba.underlying25 hi0 hz1 g k C _ rfl (OD.out nq _) ⟨wr.heap.size, 0, none⟩ 1 1 [.string (nm y.1), .string y.2] rfl rfl ?c1 ?c2 ?c3 ?_)
        case c1 => exact cells_two_new (wr.drewN nq) _ rfl _ _ _
        case c2 => intro u hu; simp at hu; rcases hu with rfl | rfl <;> rfl
        case c3 => omega
        intro w2 hO2 hG2
        have HE2 : Hid (k + 1 = (D ++ (E ++ [y])).length ∧ w2.ownsRow B 36 2 (.slice (some ⟨g, 0, none⟩) (k + 1) C) (k + 1) (flat (D ++ (E ++ [y]))) ∧ (E ++ [y]) ++ mrg (L.drop (i)) (O.drop (j + 1)) = mrg L O) := by
          obtain ⟨q1, q2, q3⟩ := HE.out
          refine ⟨by simp at q1 ⊢; omega, ?_, ?_⟩
          · rw [← List.append_assoc, flat_append]; exact hO2
          · rw [← q3, dL.out, dO.out, mrg, if_neg (by omega), if_pos hxy]
            simp [dL.out]
        have HG2 : Hid (w.grownBy w2 (some g)) := grownBy_trans HG.out (grownBy_trans (grownBy_drewN wr nq _) (grownBy_trans (World.grownBy_alloc _ _ _) hG2))
        clear hO2 hG2 HE HG OD
        go_wp2
        go_roundw
        case rel => exact ⟨i, j + 1, k + 1, E ++ [y], by omega, by omega, by simp, by simp, rfl, by omega, HE2, HG2⟩
        case measure => simp [intOf]; omega
    · have hex : i = lL ∨ (i < lL ∧ j = lO) := by omega
      have HM : Hid (mrg (L.drop i) (O.drop j) = L.drop i ++ O.drop j) := by
        rcases hex with h | h
        · have e : L.drop i = [] := List.drop_eq_nil_of_le (by rw [← HlL.out]; omega)
          rw [e, mrg_nil_left]; exact (List.nil_append _).symm
        · have e : O.drop j = [] := List.drop_eq_nil_of_le (by rw [← HlO.out]; omega)
          rw [e, mrg_nil_right]; exact (List.append_nil _).symm
      have WL : LabsAt wr a c L p := HL.out.kept HG.out.size (fun b pb hlt => HG.out.block b hlt (by simpa using HP.out.1 b pb))
      obtain ⟨ad1, hs1, hnone1, hcell1⟩ := slice_from WL i (by rw [← HlL.out]; exact hi)
      obtain ⟨ad2, hs2, hnone2, _⟩ := slice_from HO.out j (by rw [← HlO.out]; exact hj)
      rw [← HlL.out] at hs1 hnone1
      rw [← HlO.out] at hs2 hnone2
      have N1 : Hid (ad1 = none → lL - i = 0 ∧ c - i = 0) := hnone1
      have N2 : Hid (ad2 = none → lO - j = 0 ∧ c' - j = 0) := hnone2
      have C1 : Hid (∀ x, ad1 = some x → ∀ k u, (flat (L.drop i))[k]? = some u → wr.cell? (x.add k) = some u) := hcell1
      clear hnone1 hnone2 hcell1 WL
      have hnn : ¬ (i < lL ∧ j < lO) := hlt
      rcases hex with hex | ⟨hex1, hex2⟩
      · have hex' : ¬ (i : Int) < (lL : Int) := by omega
        clear hex
        go_wp2_with (at_builtin; refine wpList_append_fits_any _ rfl (.tmp 68) (.tmp 71) 25 rfl B 36 i0 2 Yba.underlying25 hi0 hz1 g k C _ rfl HE.out.2.1 ad1 (lL - i) (c - i) (flat (L.drop i)) rfl ?c1 N1.out C1.out ?c2 ?c3 ?_)
        case c1 => rw [flat_length]; simp [HlL.out]
        case c2 => exact flat_one _
        case c3 => omega
        intro w2 hO2 hG2
        have G2 : Hid (w.grownBy w2 (some g)) := grownBy_trans HG.out hG2
        have WO : LabsAt w2 a' c' O p' := HO.out.kept G2.out.size (fun b pb hlt => G2.out.block b hlt (by simpa using HP.out.2.1 b pb))
        obtain ⟨ad2', hs2', _, hcell2⟩ := slice_from WO j (by rw [← HlO.out]; exact hj)
        have C2 : Hid (∀ x, ad2 = some x → ∀ k u, (flat (O.drop j))[k]? = some u → w2.cell? (x.add k) = some u) := by
          rw [← HlO.out] at hs2'
          have := (hs2 w2).symm.trans (hs2' w2)
          simp at this
          rw [this]; exact hcell2
        have O2 : Hid (w2.ownsRow B 36 2 (.slice (some ⟨g, 0, none⟩) (k + (lL - i)) C) (k + (lL - i)) (flat (D ++ E) ++ flat (L.drop i))) := hO2
        clear hO2 hG2 WO hs2' hcell2
        go_wp2_with (at_builtin; refine wpList_append_fits_any _ rfl (.tmp 73) (.tmp 76) 25 rfl B 36 i0 2 Yba.underlying25 hi0 hz1 g (k + (lL - i)) C _ rfl O2.out ad2 (lO - j) (c' - j) (flat (O.drop j)) rfl ?d1 N2.out C2.out ?d2 ?d3 ?_)
        case d1 => rw [flat_length]; simp [HlO.out]
        case d2 => exact flat_one _
        case d3 => omega
        intro w3 hO3 hG3
        have O3 : Hid (w3.ownsRow B 36 2 (.slice (some ⟨g, 0, none⟩) (k + (lL - i) + (lO - j)) C) (k + (lL - i) + (lO - j)) (flat (D ++ E) ++ (flat (L.drop i) ++ flat (O.drop j)))) := hO3
        have G3 : Hid (w.grownBy w3 (some g)) := grownBy_trans G2.out hG3
        clear hO3 hG3
        go_wp2
        go_ret
        obtain ⟨q1, q2, q3⟩ := HE.out
        have ek : k + (lL - i) + (lO - j) = n + (mrg L O).length := by
          rw [← q3, HM.out]; simp at q1 ⊢; rw [HlL.out, HlO.out, HN.out]; omega
        have ef : flat (D ++ E) ++ (flat (L.drop i) ++ flat (O.drop j)) = flat (D ++ mrg L O) := by
          rw [← q3, HM.out]; simp [flat_append]
        rw [← ek, ← ef]
        exact ⟨rfl, O3.out, G3.out⟩
      · have hex1' : (i : Int) < (lL : Int) := by omega
        have hex2' : ¬ (j : Int) < (lO : Int) := by omega
        clear hex2
        go_wp2_with (at_builtin; refine wpList_append_fits_any _ rfl (.tmp 68) (.tmp 71) 25 rfl B 36 i0 2 Yba.underlying25 hi0 hz1 g k C _ rfl HE.out.2.1 ad1 (lL - i) (c - i) (flat (L.drop i)) rfl ?c1 N1.out C1.out ?c2 ?c3 ?_)
        case c1 => rw [flat_length]; simp [HlL.out]
        case c2 => exact flat_one _
        case c3 => omega
        intro w2 hO2 hG2
        have G2 : Hid (w.grownBy w2 (some g)) := grownBy_trans HG.out hG2
        have WO : LabsAt w2 a' c' O p' := HO.out.kept G2.out.size (fun b pb hlt => G2.out.block b hlt (by simpa using HP.out.2.1 b pb))
        obtain ⟨ad2', hs2', _, hcell2⟩ := slice_from WO j (by rw [← HlO.out]; exact hj)
        have C2 : Hid (∀ x, ad2 = some x → ∀ k u, (flat (O.drop j))[k]? = some u → w2.cell? (x.add k) = some u) := by
          rw [← HlO.out] at hs2'
          have := (hs2 w2).symm.trans (hs2' w2)
          simp at this
          rw [this]; exact hcell2
        have O2 : Hid (w2.ownsRow B 36 2 (.slice (some ⟨g, 0, none⟩) (k + (lL - i)) C) (k + (lL - i)) (flat (D ++ E) ++ flat (L.drop i))) := hO2
        clear hO2 hG2 WO hs2' hcell2
        go_wp2_with (at_builtin; refine wpList_append_fits_any _ rfl (.tmp 73) (.tmp 76) 25 rfl B 36 i0 2 Yba.underlying25 hi0 hz1 g (k + (lL - i)) C _ rfl O2.out ad2 (lO - j) (c' - j) (flat (O.drop j)) rfl ?d1 N2.out C2.out ?d2 ?d3 ?_)
        case d1 => rw [flat_length]; simp [HlO.out]
        case d2 => exact flat_one _
        case d3 => omega
        intro w3 hO3 hG3
        have O3 : Hid (w3.ownsRow B 36 2 (.slice (some ⟨g, 0, none⟩) (k + (lL - i) + (lO - j)) C) (k + (lL - i) + (lO - j)) (flat (D ++ E) ++ (flat (L.drop i) ++ flat (O.drop j)))) := hO3
        have G3 : Hid (w.grownBy w3 (some g)) := grownBy_trans G2.out hG3
        clear hO3 hG3
        go_wp2
        go_ret
        obtain ⟨q1, q2, q3⟩ := HE.out
        have ek : k + (lL - i) + (lO - j) = n + (mrg L O).length := by
          rw [← q3, HM.out]; simp at q1 ⊢; rw [HlL.out, HlO.out, HN.out]; omega
        have ef : flat (D ++ E) ++ (flat (L.drop i) ++ flat (O.drop j)) = flat (D ++ mrg L O) := by
          rw [← q3, HM.out]; simp [flat_append]
        rw [← ek, ← ef]
        exact ⟨rfl, O3.out, G3.out⟩
end Go.Proofs.Ybulkadpk
