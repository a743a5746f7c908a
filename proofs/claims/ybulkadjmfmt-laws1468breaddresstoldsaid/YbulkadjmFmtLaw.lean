import Derived.Test.YbulkadjmFmtParts
namespace Go.Proofs.YbulkadjmFmt
open Go.RowKit Go.Extern.Stop Go.Stop Go.Extern Go.QuietTail

set_option maxRecDepth 100000 in
set_option maxHeartbeats 8000000 in
theorem law_walk (F : Interp) (qid hid flags qd k cut : Int) (qa aa ra : Option Addr) (qc ac rc : Nat) (q aq : List Int) (rs : List RecV) (w : World) (hF : F.answers w.tape)
    (b1 : 0 ≤ qid ∧ qid ≤ 65535) (b2 : 0 ≤ hid ∧ hid ≤ 65535) (b3 : 0 ≤ flags ∧ flags ≤ 65535) (b4 : 0 ≤ qd ∧ qd ≤ 65535) (b5 : 0 ≤ k ∧ k ≤ 255) (b6 : 0 ≤ cut ∧ cut ≤ 65535)
    (hq : Arg w qa q) (ha : Arg w aa aq) (hrl : rs.length ≤ 9223372036854775807) (hr : 0 < rs.length → ∃ b o, ra = some ⟨b, o, none⟩ ∧ RecsAt w b o rs) :
    Calls Ybaf.prog 3 #[.int .u16 qid, .int .u16 hid, .int .u16 flags, .int .u16 qd, .slice qa q.length qc, .slice aa aq.length ac, .slice ra rs.length rc, .int .u8 k, .int .u16 cut] w fun e w' => e = .returned (.bool true) ∧ Below w.heap.size w w' := by
  obtain ⟨n, hn⟩ : ∃ n, n = rs.length := ⟨_, rfl⟩
  obtain ⟨ql, hql⟩ : ∃ ql, ql = q.length := ⟨_, rfl⟩
  obtain ⟨al, hal⟩ : ∃ al, al = aq.length := ⟨_, rfl⟩
  have HQ : Hid (Arg w qa q) := hq
  have HA : Hid (Arg w aa aq) := ha
  have HR : Hid (0 < rs.length → ∃ b o, ra = some ⟨b, o, none⟩ ∧ RecsAt w b o rs) := hr
  have HN : Hid (n = rs.length) := hn
  have HQL : Hid (ql = q.length) := hql
  have HAL : Hid (al = aq.length) := hal
  have hqb := hq.2.1
  have hab := ha.2.1
  rw [← hn, ← hql, ← hal]
  rw [← hn] at hrl
  rw [← hql] at hqb
  rw [← hal] at hab
  clear hq ha hr hn hql hal
  by_cases h1 : ql ≤ 300 ∧ n ≤ 300
  · obtain ⟨h1, h2⟩ := h1
    have h1' : ¬ ((300 : Int) < (ql : Int)) := by omega
    have h2' : ¬ ((300 : Int) < (n : Int)) := by omega
    go_enter Ybaf.func3, Ybaf.ntmps3
    go_wp2
    go_loop [47] (fun i => ∃ m : Nat, m ≤ n ∧ i = .int .i64 m ∧ Hid (∀ j, j < m → (rs.getD j dflt).r.data.length ≤ 300)) (fun i => n - (intOf i).toNat)
    case atStart => exact ⟨0, Nat.zero_le _, rfl, fun j hj => by omega⟩
    case round =>
      obtain ⟨m, hm, rfl, HD⟩ := hrel
      by_cases hlt : m < n
      · obtain ⟨rb, ro, hra, hR⟩ := HR.out (by rw [← HN.out]; omega)
        subst hra
        have hc := hR.data m (by rw [← HN.out]; omega)
        clear hR
        go_wp2
        · go_ret
          exact ⟨rfl, Below.refl _ _⟩
        · go_round
          case rel =>
            refine ⟨m + 1, by omega, by go_num, ?_⟩
            intro j hj
            by_cases hjm : j = m
            · subst hjm
              have : ((rs[j]?.getD dflt).r.data.length : Int) ≤ 300 := by assumption
              rw [List.getD_eq_getElem?_getD]
              omega
            · exact HD.out j (by omega)
          case measure => simp [intOf]; omega
      · obtain rfl : m = n := by omega
        obtain ⟨i0, hi, hz0, hz1, hz2⟩ := info_parts info5
        go_wp2_with (at_make; refine wpList_make_full _ rfl _ _ 23 rfl w.heap.size 5 i0 (.int .u8 0) 1 Ybaf.underlying23 hi hz0 hz1 _ _ _ _ ql rfl rfl (by omega) (by omega) (by rw [hz2]; omega) (by unfold maxLen; omega) (Nat.le_refl _) ?_)
        intro w1 hown hgrow
        have O1 : Hid (Own w1 w.heap.size w.heap.size ql (List.replicate ql 0)) := Own.mk hown (by simp) (by simp [toList_madeCells_one])
        have G1 : Hid (w.grownBy w1 none) := hgrow
        have B1 : Hid (Below w.heap.size w w1) := (Below.refl _ w).grown hgrow (Nat.le_refl _) (fun k hk => by cases hk)
        clear hown hgrow
        go_wp2_with (refine wpList_copy_lay rfl (.tmp 61) (.tmp 62) rfl _ _ _ _ _ _ rfl rfl w.heap.size w.heap.size ql 0 (List.replicate ql 0) q O1.out ?hdp ?hfit HQL.out.symm ?hsp ?_)
        case hfit => simp
        case hsp => exact (HQ.out.later B1.out).src HQL.out.symm
        intro w2 N2 hO2 hG2
        have O2 : Hid (Own w2 w.heap.size w.heap.size ql q) := by
          rw [lay_full ql q HQL.out] at hO2
          exact hO2
        have hs1 : w.heap.size < w1.heap.size := O1.out.lt.2
        have B2 : Hid (Below w.heap.size w w2) := B1.out.grown hG2 (Nat.le_of_lt hs1) (fun k hk => by cases hk; exact Nat.le_refl _)
        have hs2 : w.heap.size < w2.heap.size := O2.out.lt.2
        clear hO2 hG2 O1 G1 B1 hs1
        obtain ⟨kk, hkk⟩ : ∃ kk : Nat, k % ((m : Int) + 1) = (kk : Int) := ⟨(k % ((m : Int) + 1)).toNat, by have := Int.emod_nonneg k (show ((m : Int) + 1) ≠ 0 by omega); omega⟩
        have hkkm : kk ≤ m := by have := Int.emod_lt_of_pos k (show 0 < ((m : Int) + 1) by omega); omega
        go_wp2_with (at_make; refine wpList_make_full _ rfl _ _ 23 rfl w2.heap.size 5 i0 (.int .u8 0) 1 Ybaf.underlying23 hi hz0 hz1 _ _ _ _ 12 rfl rfl (by omega) (by omega) (by rw [hz2]; omega) (by unfold maxLen; omega) (Nat.le_refl _) ?_)
        intro w3 hown hgrow
        have O3 : Hid (Own w3 w2.heap.size w2.heap.size 12 (List.replicate 12 0)) := Own.mk hown (by simp) (by simp [toList_madeCells_one])
        have G3 : Hid (w2.grownBy w3 (some w2.heap.size)) := grownBy_weak hgrow _
        clear hown hgrow
        go_wp2
        refine wp_region_drew_tail 4 (by kernel_rfl) (by kernel_rfl) ?_
        simp only [List.take_succ_cons, List.take_zero, List.drop_succ_cons, List.drop_zero]
        iterate 4 (go_big_quiet_step (fail))
        refine wpQuiet_nil ?_
        intro wx hwx
        obtain ⟨nq, rfl⟩ := hwx
        go_wp2_with fail
        refine (put16_any w2.heap.size w2.heap.size 12 0 _ _ (List.replicate 12 0) hid _ (O3.out.drewN nq) (by omega) (by simp) b2.1 b2.2).mono ?_
        rintro e w4 ⟨rfl, hO, hG⟩
        have O4 : Hid (Own w4 w2.heap.size w2.heap.size 12 (put16 (List.replicate 12 0) 0 hid)) := hO
        have G4 : Hid (w2.grownBy w4 (some w2.heap.size)) := grownBy_trans G3.out (grownBy_trans (grownBy_drewN w3 nq _) hG)
        clear hO hG O3 G3 nq
        go_wp2
        refine wp_region_drew_tail 4 (by kernel_rfl) (by kernel_rfl) ?_
        simp only [List.take_succ_cons, List.take_zero, List.drop_succ_cons, List.drop_zero]
        iterate 4 (go_big_quiet_step (fail))
        refine wpQuiet_nil ?_
        intro wx hwx
        obtain ⟨nq, rfl⟩ := hwx
        go_wp2_with fail
        refine (put16_any w2.heap.size w2.heap.size 12 2 _ _ (put16 (List.replicate 12 0) 0 hid) flags _ (O4.out.drewN nq) (by omega) (by simp [put16_length]) b3.1 b3.2).mono ?_
        rintro e w5 ⟨rfl, hO, hG⟩
        have O5 : Hid (Own w5 w2.heap.size w2.heap.size 12 (put16 (put16 (List.replicate 12 0) 0 hid) 2 flags)) := hO
        have G5 : Hid (w2.grownBy w5 (some w2.heap.size)) := grownBy_trans G4.out (grownBy_trans (grownBy_drewN w4 nq _) hG)
        clear hO hG O4 G4 nq
        go_wp2
        refine wp_region_drew_tail 4 (by kernel_rfl) (by kernel_rfl) ?_
        simp only [List.take_succ_cons, List.take_zero, List.drop_succ_cons, List.drop_zero]
        iterate 4 (go_big_quiet_step (fail))
        refine wpQuiet_nil ?_
        intro wx hwx
        obtain ⟨nq, rfl⟩ := hwx
        go_wp2_with fail
        refine (put16_any w2.heap.size w2.heap.size 12 4 _ _ (put16 (put16 (List.replicate 12 0) 0 hid) 2 flags) qd _ (O5.out.drewN nq) (by omega) (by simp [put16_length]) b4.1 b4.2).mono ?_
        rintro e w6 ⟨rfl, hO, hG⟩
        have O6 : Hid (Own w6 w2.heap.size w2.heap.size 12 (put16 (put16 (put16 (List.replicate 12 0) 0 hid) 2 flags) 4 qd)) := hO
        have G6 : Hid (w2.grownBy w6 (some w2.heap.size)) := grownBy_trans G5.out (grownBy_trans (grownBy_drewN w5 nq _) hG)
        clear hO hG O5 G5 nq
        go_wp2
        refine wp_region_drew_tail 5 (by kernel_rfl) (by kernel_rfl) ?_
        simp only [List.take_succ_cons, List.take_zero, List.drop_succ_cons, List.drop_zero]
        iterate 5 (go_big_quiet_step (fail))
        refine wpQuiet_nil ?_
        intro wx hwx
        obtain ⟨nq, rfl⟩ := hwx
        go_wp2_with fail
        refine (put16_any w2.heap.size w2.heap.size 12 6 _ _ (put16 (put16 (put16 (List.replicate 12 0) 0 hid) 2 flags) 4 qd) (kk : Int) _ (O6.out.drewN nq) (by omega) (by simp [put16_length]) (by omega) (by omega)).mono ?_
        rintro e w7 ⟨rfl, hO, hG⟩
        have O7 : Hid (Own w7 w2.heap.size w2.heap.size 12 (put16 (put16 (put16 (put16 (List.replicate 12 0) 0 hid) 2 flags) 4 qd) 6 (kk : Int))) := hO
        have G7 : Hid (w2.grownBy w7 (some w2.heap.size)) := grownBy_trans G6.out (grownBy_trans (grownBy_drewN w6 nq _) hG)
        clear hO hG O6 G6 nq
        go_wp2
        refine wp_region_drew_tail 3 (by kernel_rfl) (by kernel_rfl) ?_
        simp only [List.take_succ_cons, List.take_zero, List.drop_succ_cons, List.drop_zero]
        iterate 3 (go_big_quiet_step (fail))
        refine wpQuiet_nil ?_
        intro wx hwx
        obtain ⟨nq, rfl⟩ := hwx
        go_wp2_with fail
        refine (put16_any w2.heap.size w2.heap.size 12 8 _ _ (put16 (put16 (put16 (put16 (List.replicate 12 0) 0 hid) 2 flags) 4 qd) 6 (kk : Int)) 0 _ (O7.out.drewN nq) (by omega) (by simp [put16_length]) (by omega) (by omega)).mono ?_
        rintro e w8 ⟨rfl, hO, hG⟩
        have O8 : Hid (Own w8 w2.heap.size w2.heap.size 12 (put16 (put16 (put16 (put16 (put16 (List.replicate 12 0) 0 hid) 2 flags) 4 qd) 6 (kk : Int)) 8 0)) := hO
        have G8 : Hid (w2.grownBy w8 (some w2.heap.size)) := grownBy_trans G7.out (grownBy_trans (grownBy_drewN w7 nq _) hG)
        clear hO hG O7 G7 nq
        go_wp2
        refine wp_region_drew_tail 7 (by kernel_rfl) (by kernel_rfl) ?_
        simp only [List.take_succ_cons, List.take_zero, List.drop_succ_cons, List.drop_zero]
        iterate 7 (go_big_quiet_step (fail))
        refine wpQuiet_nil ?_
        intro wx hwx
        obtain ⟨nq, rfl⟩ := hwx
        go_wp2_with fail
        refine (put16_any w2.heap.size w2.heap.size 12 10 _ _ (put16 (put16 (put16 (put16 (put16 (List.replicate 12 0) 0 hid) 2 flags) 4 qd) 6 (kk : Int)) 8 0) ((m : Int) - (kk : Int)) _ (O8.out.drewN nq) (by omega) (by simp [put16_length]) (by omega) (by omega)).mono ?_
        rintro e w9 ⟨rfl, hO, hG⟩
        have O9 : Hid (Own w9 w2.heap.size w2.heap.size 12 (put16 (put16 (put16 (put16 (put16 (put16 (List.replicate 12 0) 0 hid) 2 flags) 4 qd) 6 (kk : Int)) 8 0) 10 ((m : Int) - (kk : Int)))) := hO
        have G9 : Hid (w2.grownBy w9 (some w2.heap.size)) := grownBy_trans G8.out (grownBy_trans (grownBy_drewN w8 nq _) hG)
        clear hO hG O8 G8 nq
        have OH : Hid (Own w9 w2.heap.size w2.heap.size 12 (hdr hid flags qd kk ((m : Int) - (kk : Int)) ++ area aq 0)) := O9.out
        have B9 : Hid (Below w.heap.size w w9) := B2.out.grown G9.out (Nat.le_of_lt hs2) (fun k hk => by cases hk; exact Nat.le_of_lt hs2)
        have Q9 : Hid (Own w9 w.heap.size w.heap.size ql q) := O2.out.kept G9.out (by simp; omega)
        have hs9 : w2.heap.size ≤ w9.heap.size := G9.out.size
        clear O9 G9 O2 B2
        go_wp2
        go_loopw [107, 23] (fun i msg wr => ∃ (j g cap : Nat) (l : List Int), j ≤ ql ∧ i = .int .i64 j ∧ msg = .slice (some ⟨g, 0, none⟩) (12 + j) cap ∧ Hid (l = hdr hid flags qd kk ((m : Int) - (kk : Int)) ++ area aq j) ∧ Hid (Own wr w2.heap.size g cap l) ∧
            Hid (Own wr w.heap.size w.heap.size ql q) ∧ Hid (Below w.heap.size w wr) ∧ w2.heap.size ≤ wr.heap.size) (fun i _ _ => ql - (intOf i).toNat)
        case atStart => exact ⟨0, _, _, _, Nat.zero_le _, rfl, rfl, rfl, OH, Q9, B9, hs9⟩
        case round =>
          obtain ⟨j, g, cap, l, hj, rfl, rfl, LJ, OJ, QJ, BJ, hsJ⟩ := hrel
          clear OH Q9 B9 hs9
          have hlJ : Hid (l.length = 12 + j) := by rw [LJ.out]; show _ = _; rw [List.length_append, hdr_length, area_length]
          have RJ : Hid (wr.ownsRow w2.heap.size 5 1 (.slice (some ⟨g, 0, none⟩) (12 + j) cap) (12 + j) (l.map (Value.int .u8))) := OJ.out.row hlJ.out
          have hgJ := OJ.out.lt
          by_cases hlt : j < ql
          · obtain ⟨x, hx⟩ : ∃ x, areaAt aq j = x := ⟨_, rfl⟩
            have HX : Hid (areaAt aq j = x) := hx
            clear hx
            have fin : ∀ (v' : Value) (w1 : World), w1.ownsRow w2.heap.size 5 1 v' (12 + j + 1) (l.map (Value.int .u8) ++ [.int .u8 x]) → wr.grownBy w1 (some g) → ¬ v' = .slice none 0 0 →
                ∃ g' cap', v' = .slice (some ⟨g', 0, none⟩) (12 + (j + 1)) cap' ∧ Own w1 w2.heap.size g' cap' (l ++ [x]) ∧ (l ++ [x] = hdr hid flags qd kk ((m : Int) - (kk : Int)) ++ area aq (j + 1)) ∧ Own w1 w.heap.size w.heap.size ql q ∧ Below w.heap.size w w1 ∧ w2.heap.size ≤ w1.heap.size := by
              intro v' w1 h1 h2 h3
              obtain ⟨g', cap', hv, ho, _⟩ := Own.push h1 h3 (by rw [hlJ.out]) rfl h2
              refine ⟨g', cap', by rw [hv]; simp; omega, ho, ?_, QJ.out.kept h2 (by simp; omega), BJ.out.grown h2 BJ.out.size (fun k hk => by cases hk; omega), Nat.le_trans hsJ h2.size⟩
              rw [LJ.out, area_succ, HX.out, List.append_assoc]
            have FIN : Hid _ := fin
            clear fin
            by_cases hal : al = 0
            · subst hal
              obtain rfl : x = 0 := by rw [← HX.out]; unfold areaAt; rw [if_pos HAL.out.symm]
              go_wp2_with (at_builtin; refine wpList_append_own _ rfl (.tmp 120) (.tmp 122) 23 rfl w2.heap.size 5 i0 (.int .u8 0) 1 1 Ybaf.underlying23 hi hz0 hz1 hz2 rfl (by decide) _ _ _ rfl (RJ.out.alloc _) ⟨wr.heap.size, 0, none⟩ 1 1 [.int .u8 0] rfl rfl ?c1 ?c2 ?c3 ?c4 ?c5 ?_)
              case c1 => exact cell_one wr _ rfl _ _
              case c2 => intro u hu; simp at hu; subst hu; rfl
              case c3 => unfold maxLen; omega
              case c4 => omega
              case c5 => simp; omega
              intro v' w1 h1 h2 h3
              obtain ⟨g', cap', hv, ho, hl', hq', hb', hs'⟩ := FIN.out v' w1 h1 (grownBy_trans (World.grownBy_alloc _ _ _) h2) h3
              clear FIN h1 h2 h3
              rw [hv]
              go_wp2
              go_roundw
              case rel => exact ⟨j + 1, g', cap', _, by omega, by go_num, rfl, hl', ho, hq', hb', hs'⟩
              case measure => simp [intOf]; omega
            · obtain ⟨ab, ao, haa, hac⟩ := HA.out.2.2 (by have := HAL.out; omega)
              subst haa
              have hlm : j % al < al := Nat.mod_lt _ (by omega)
              have hcx : wr.cell? ⟨ab, ao + j % al, none⟩ = some (.int .u8 x) := by
                have h1 := hac (j % al) (by rw [← HAL.out]; exact hlm)
                rw [BJ.out.cell (p := ⟨ab, ao + j % al, none⟩) (World.block_lt_of_cell? w ⟨ab, ao + j % al, none⟩ h1), h1]
                rw [← HX.out]
                unfold areaAt
                rw [← HAL.out, if_neg hal]
              clear hac
              go_wp2_with (at_builtin; refine wpList_append_own _ rfl (.tmp 120) (.tmp 122) 23 rfl w2.heap.size 5 i0 (.int .u8 0) 1 1 Ybaf.underlying23 hi hz0 hz1 hz2 rfl (by decide) _ _ _ rfl (RJ.out.alloc _) ⟨wr.heap.size, 0, none⟩ 1 1 [.int .u8 x] rfl rfl ?c1 ?c2 ?c3 ?c4 ?c5 ?_)
              case c1 => exact cell_one wr _ rfl _ _
              case c2 => intro u hu; simp at hu; subst hu; rfl
              case c3 => unfold maxLen; omega
              case c4 => omega
              case c5 => simp; omega
              intro v' w1 h1 h2 h3
              obtain ⟨g', cap', hv, ho, hl', hq', hb', hs'⟩ := FIN.out v' w1 h1 (grownBy_trans (World.grownBy_alloc _ _ _) h2) h3
              clear FIN h1 h2 h3
              rw [hv]
              go_wp2
              go_roundw
              case rel => exact ⟨j + 1, g', cap', _, by omega, by go_num, rfl, hl', ho, hq', hb', hs'⟩
              case measure => simp [intOf]; omega
          · obtain rfl : j = ql := by omega
            clear RJ
            have LP : Hid (l = hdr hid flags qd kk ((m : Int) - (kk : Int)) ++ area aq j) := LJ
            clear LJ
            go_wp2
            go_loopw [127, 23, 26, 27] (fun i msg ca op wt => ∃ (x g cap ll c : Nat) (l' : List Int) (a : Int), x ≤ m ∧ i = .int .i64 x ∧ msg = .slice (some ⟨g, 0, none⟩) ll cap ∧ ca = .int .i64 a ∧ op = .int .i64 c ∧ Hid (l'.length = ll) ∧ ll ≤ 312 + 312 * x ∧ 12 ≤ ll ∧ c ≤ x ∧ -1 ≤ a ∧ a ≤ 1000000 ∧
                Hid (l' = l ++ encAll ((rs.take x).map RecV.r)) ∧ Hid (tally kk ((rs.drop x).map RecV.r) x ll c a = tally kk (rs.map RecV.r) 0 (12 + j) 0 (-1)) ∧ Hid (Own wt w2.heap.size g cap l') ∧
                Hid (Own wt w.heap.size w.heap.size j q) ∧ Hid (Below w.heap.size w wt) ∧ w2.heap.size ≤ wt.heap.size) (fun i _ _ _ _ => m - (intOf i).toNat)
            case atStart => exact ⟨0, g, cap, 12 + j, 0, l, -1, Nat.zero_le _, rfl, rfl, rfl, rfl, hlJ, by omega, by omega, Nat.le_refl _, by omega, by omega, (show l = _ by simp [encAll]), rfl, OJ, QJ, BJ, hsJ⟩
            case round =>
              obtain ⟨x, g1, cap1, ll, c, l', a, hx, rfl, rfl, rfl, rfl, LL, hll, hl12, hcx, ha1, ha2, LX, TX, OX, QX, BX, hsX⟩ := hrel
              clear OJ QJ BJ hsJ hgJ
              by_cases hlt2 : x < m
              · obtain ⟨rb, ro, hra, hRA⟩ := HR.out (by rw [← HN.out]; omega)
                subst hra
                have hx' : x < rs.length := by rw [← HN.out]; exact hlt2
                have q0 := cell_from BX.out (hRA.ptr x hx')
                have q1 := cell_from BX.out (hRA.opt x hx')
                have q2 := cell_from BX.out (hRA.cls x hx')
                have q3 := cell_from BX.out (hRA.ttl x hx')
                have q4 := cell_from BX.out (hRA.data x hx')
                have qa := (hRA.arg x hx').later BX.out
                have qw := hRA.arg x hx'
                have qn := hRA.nil x hx'
                have qb := hRA.num x hx'
                have qd300 := HD.out x (by omega)
                obtain ⟨R, hRx⟩ : ∃ R, R = rs.getD x dflt := ⟨_, rfl⟩
                have HRX : Hid (R = rs.getD x dflt) := hRx
                rw [← hRx] at q0 q1 q2 q3 q4 qa qn qb qd300 qw
                have QW : Hid (Arg w R.da R.r.data) := qw
                clear qw
                clear hRx hRA
                have QA : Hid (Arg wr R.da R.r.data) := qa
                have QN : Hid (R.da = none → R.dc = 0) := qn
                clear qa qn
                obtain ⟨dl, hdl⟩ : ∃ dl, dl = R.r.data.length := ⟨_, rfl⟩
                have HDL : Hid (dl = R.r.data.length) := hdl
                rw [← hdl] at q4 qd300
                clear hdl
                have S1 : Hid (St w w2.heap.size j q wr.heap.size R (wr.alloc (.cells #[.bool R.r.ptr, .bool R.r.opt, .int .u16 R.r.cls, .int .u32 R.r.ttl, .slice R.da dl R.dc] 27)) g1 cap1 l') := ⟨OX.out.alloc _, QX.out.alloc _, BX.out.alloc BX.out.size _, (by simp; omega), QW.out, (by rw [HDL.out]; exact heap_alloc_new wr _), hs2⟩
                clear OX QA
                by_cases hkx : (kk : Int) ≤ (x : Int)
                · by_cases hp : R.r.ptr = true
                  · by_cases ho : R.r.opt = true
                    · have HE : Hid (R.r.name = [192, 12] ∧ R.r.typ = 41 ∧ R.r.d = 2) := ⟨by unfold Rec.name; rw [hp]; rfl, by unfold Rec.typ; rw [ho]; rfl, by unfold Rec.d; rw [hp]; rfl⟩
                      have HO : Hid (R.r.opt = true) := ho
                      rw [hp] at q0 S1
                      rw [ho] at q1 S1
                      clear hp ho
                      go_wp2_with (at_builtin; refine wpList_append_bytes rfl (.tmp 136) (.tmp 137) rfl w2.heap.size g1 cap1 ll 2 (some ⟨wr.heap.size + 1, 0, none⟩) l' [192, 12] (S1.out.own.alloc _) LL.out rfl rfl (arg_new _ _ (by simp) [192, 12] (by decide) (by decide)) (by intro h; cases h) (by simp; omega) (by simp; omega) ?_)
                      intro g2 cap2 w3 hO hG
                      have S2 : Hid (St w w2.heap.size j q wr.heap.size R w3 g2 cap2 (l' ++ [192, 12])) := S1.out.step (grownBy_trans (World.grownBy_alloc _ _ _) hG) hO
                      have L2 : Hid ((l' ++ [192, 12]).length = ll + 2) := by show _ = _; rw [List.length_append, LL.out]; rfl
                      obtain ⟨z0, z1, z2, z3, z4⟩ := S2.out.box.cells
                      rw [HO.out] at z1
                      clear hO hG S1 q0 q1 q2 q3 q4 z0 z2 z3 z4
                      go_wp2_with fail
                      refine (append16_n w2.heap.size g2 cap2 (ll + 2) (l' ++ [192, 12]) 41 _ S2.out.own L2.out (by omega) (by omega) (by omega) S2.out.size).mono ?_
                      rintro e w4 ⟨g3, cap3, rfl, hO, hG⟩
                      have S3 : Hid (St w w2.heap.size j q wr.heap.size R w4 g3 cap3 ((l' ++ [192, 12]) ++ be16 41)) := S2.out.step hG hO
                      have L3 : Hid (((l' ++ [192, 12]) ++ be16 41).length = ll + 2 + 2) := by show _ = _; rw [List.length_append, L2.out]; rfl
                      obtain ⟨z0, z1, z2, z3, z4⟩ := S3.out.box.cells
                      rw [← HDL.out] at z4
                      clear hO hG S2 L2 z0 z1
                      go_wp2_with fail
                      refine (append16_n w2.heap.size g3 cap3 (ll + 2 + 2) ((l' ++ [192, 12]) ++ be16 41) R.r.cls _ S3.out.own L3.out (by omega) qb.1 qb.2.1 S3.out.size).mono ?_
                      rintro e w5 ⟨g4, cap4, rfl, hO, hG⟩
                      have S4 : Hid (St w w2.heap.size j q wr.heap.size R w5 g4 cap4 (((l' ++ [192, 12]) ++ be16 41) ++ be16 R.r.cls)) := S3.out.step hG hO
                      have L4 : Hid ((((l' ++ [192, 12]) ++ be16 41) ++ be16 R.r.cls).length = ll + 2 + 2 + 2) := by show _ = _; rw [List.length_append, L3.out]; rfl
                      obtain ⟨z0, z1, z2, z3, z4⟩ := S4.out.box.cells
                      rw [← HDL.out] at z4
                      clear hO hG S3 L3 z0 z1
                      go_wp2_with fail
                      refine (append32_n w2.heap.size g4 cap4 (ll + 2 + 2 + 2) (((l' ++ [192, 12]) ++ be16 41) ++ be16 R.r.cls) R.r.ttl _ S4.out.own L4.out (by omega) qb.2.2.1 qb.2.2.2 S4.out.size).mono ?_
                      rintro e w6 ⟨g5, cap5, rfl, hO, hG⟩
                      have S5 : Hid (St w w2.heap.size j q wr.heap.size R w6 g5 cap5 ((((l' ++ [192, 12]) ++ be16 41) ++ be16 R.r.cls) ++ be32 R.r.ttl)) := S4.out.step hG hO
                      have L5 : Hid (((((l' ++ [192, 12]) ++ be16 41) ++ be16 R.r.cls) ++ be32 R.r.ttl).length = ll + 2 + 2 + 2 + 4) := by show _ = _; rw [List.length_append, L4.out]; rfl
                      obtain ⟨z0, z1, z2, z3, z4⟩ := S5.out.box.cells
                      rw [← HDL.out] at z4
                      clear hO hG S4 L4 z0 z1
                      go_wp2_with fail
                      refine (append16_n w2.heap.size g5 cap5 (ll + 2 + 2 + 2 + 4) ((((l' ++ [192, 12]) ++ be16 41) ++ be16 R.r.cls) ++ be32 R.r.ttl) (dl : Int) _ S5.out.own L5.out (by omega) (by omega) (by omega) S5.out.size).mono ?_
                      rintro e w7 ⟨g6, cap6, rfl, hO, hG⟩
                      have S6 : Hid (St w w2.heap.size j q wr.heap.size R w7 g6 cap6 (((((l' ++ [192, 12]) ++ be16 41) ++ be16 R.r.cls) ++ be32 R.r.ttl) ++ be16 (dl : Int))) := S5.out.step hG hO
                      have L6 : Hid ((((((l' ++ [192, 12]) ++ be16 41) ++ be16 R.r.cls) ++ be32 R.r.ttl) ++ be16 (dl : Int)).length = ll + 2 + 2 + 2 + 4 + 2) := by show _ = _; rw [List.length_append, L5.out]; rfl
                      obtain ⟨z0, z1, z2, z3, z4⟩ := S6.out.box.cells
                      rw [← HDL.out] at z4
                      clear hO hG S5 L5 z0 z1
                      go_wp2_with (at_builtin; refine wpList_append_bytes rfl (.tmp 173) (.tmp 175) rfl w2.heap.size g6 cap6 (ll + 2 + 2 + 2 + 4 + 2) R.dc R.da (((((l' ++ [192, 12]) ++ be16 41) ++ be16 R.r.cls) ++ be32 R.r.ttl) ++ be16 (dl : Int)) R.r.data S6.out.own L6.out rfl (by rw [← HDL.out]; rfl) S6.out.data QN.out (by rw [← HDL.out]; omega) S6.out.size ?_)
                      intro g7 cap7 w8 hO hG
                      have S7 := S6.out.step hG hO
                      have S8 : Hid (St w w2.heap.size j q wr.heap.size R w8 g7 cap7 (l' ++ R.r.enc)) := by rw [← rec_push l' R.r [192, 12] 41 dl HE.out.1 HE.out.2.1 HDL.out]; show St _ _ _ _ _ _ _ _ _ _; simpa using S7
                      rw [← HDL.out]
                      clear hO hG S6 L6 S7 z2 z3 z4
                      go_wp2
                      go_roundw
                      case rel =>
                        have hlen : ll + 2 + 2 + 2 + 4 + 2 + dl = ll + R.r.len := by unfold Rec.len; rw [HE.out.2.2, ← HDL.out]; omega
                        have LL8 : (l' ++ R.r.enc).length = ll + 2 + 2 + 2 + 4 + 2 + dl := by rw [List.length_append, LL.out, R.r.enc_length, hlen]
                        exact ⟨x + 1, g7, cap7, _, c + 1, _, _, by omega, by go_num, rfl, rfl, by go_num, LL8, by omega, by omega, by omega, by omega, by omega, lx_step LX.out hx' HRX.out, tx_hit TX.out hx' HRX.out (by omega) HO.out hlen (by rw [HE.out.2.2]; omega), S8.out.own, S8.out.qq, S8.out.below, S8.out.size⟩
                      case measure => simp [intOf]; omega
                    · replace ho : R.r.opt = false := by simpa using ho
                      have HE : Hid (R.r.name = [192, 12] ∧ R.r.typ = 1 ∧ R.r.d = 2) := ⟨by unfold Rec.name; rw [hp]; rfl, by unfold Rec.typ; rw [ho]; rfl, by unfold Rec.d; rw [hp]; rfl⟩
                      have HO : Hid (R.r.opt = false) := ho
                      rw [hp] at q0 S1
                      rw [ho] at q1 S1
                      clear hp ho
                      go_wp2_with (at_builtin; refine wpList_append_bytes rfl (.tmp 136) (.tmp 137) rfl w2.heap.size g1 cap1 ll 2 (some ⟨wr.heap.size + 1, 0, none⟩) l' [192, 12] (S1.out.own.alloc _) LL.out rfl rfl (arg_new _ _ (by simp) [192, 12] (by decide) (by decide)) (by intro h; cases h) (by simp; omega) (by simp; omega) ?_)
                      intro g2 cap2 w3 hO hG
                      have S2 : Hid (St w w2.heap.size j q wr.heap.size R w3 g2 cap2 (l' ++ [192, 12])) := S1.out.step (grownBy_trans (World.grownBy_alloc _ _ _) hG) hO
                      have L2 : Hid ((l' ++ [192, 12]).length = ll + 2) := by show _ = _; rw [List.length_append, LL.out]; rfl
                      obtain ⟨z0, z1, z2, z3, z4⟩ := S2.out.box.cells
                      rw [HO.out] at z1
                      clear hO hG S1 q0 q1 q2 q3 q4 z0 z2 z3 z4
                      go_wp2_with fail
                      refine (append16_n w2.heap.size g2 cap2 (ll + 2) (l' ++ [192, 12]) 1 _ S2.out.own L2.out (by omega) (by omega) (by omega) S2.out.size).mono ?_
                      rintro e w4 ⟨g3, cap3, rfl, hO, hG⟩
                      have S3 : Hid (St w w2.heap.size j q wr.heap.size R w4 g3 cap3 ((l' ++ [192, 12]) ++ be16 1)) := S2.out.step hG hO
                      have L3 : Hid (((l' ++ [192, 12]) ++ be16 1).length = ll + 2 + 2) := by show _ = _; rw [List.length_append, L2.out]; rfl
                      obtain ⟨z0, z1, z2, z3, z4⟩ := S3.out.box.cells
                      rw [← HDL.out] at z4
                      clear hO hG S2 L2 z0 z1
                      go_wp2_with fail
                      refine (append16_n w2.heap.size g3 cap3 (ll + 2 + 2) ((l' ++ [192, 12]) ++ be16 1) R.r.cls _ S3.out.own L3.out (by omega) qb.1 qb.2.1 S3.out.size).mono ?_
                      rintro e w5 ⟨g4, cap4, rfl, hO, hG⟩
                      have S4 : Hid (St w w2.heap.size j q wr.heap.size R w5 g4 cap4 (((l' ++ [192, 12]) ++ be16 1) ++ be16 R.r.cls)) := S3.out.step hG hO
                      have L4 : Hid ((((l' ++ [192, 12]) ++ be16 1) ++ be16 R.r.cls).length = ll + 2 + 2 + 2) := by show _ = _; rw [List.length_append, L3.out]; rfl
                      obtain ⟨z0, z1, z2, z3, z4⟩ := S4.out.box.cells
                      rw [← HDL.out] at z4
                      clear hO hG S3 L3 z0 z1
                      go_wp2_with fail
                      refine (append32_n w2.heap.size g4 cap4 (ll + 2 + 2 + 2) (((l' ++ [192, 12]) ++ be16 1) ++ be16 R.r.cls) R.r.ttl _ S4.out.own L4.out (by omega) qb.2.2.1 qb.2.2.2 S4.out.size).mono ?_
                      rintro e w6 ⟨g5, cap5, rfl, hO, hG⟩
                      have S5 : Hid (St w w2.heap.size j q wr.heap.size R w6 g5 cap5 ((((l' ++ [192, 12]) ++ be16 1) ++ be16 R.r.cls) ++ be32 R.r.ttl)) := S4.out.step hG hO
                      have L5 : Hid (((((l' ++ [192, 12]) ++ be16 1) ++ be16 R.r.cls) ++ be32 R.r.ttl).length = ll + 2 + 2 + 2 + 4) := by show _ = _; rw [List.length_append, L4.out]; rfl
                      obtain ⟨z0, z1, z2, z3, z4⟩ := S5.out.box.cells
                      rw [← HDL.out] at z4
                      clear hO hG S4 L4 z0 z1
                      go_wp2_with fail
                      refine (append16_n w2.heap.size g5 cap5 (ll + 2 + 2 + 2 + 4) ((((l' ++ [192, 12]) ++ be16 1) ++ be16 R.r.cls) ++ be32 R.r.ttl) (dl : Int) _ S5.out.own L5.out (by omega) (by omega) (by omega) S5.out.size).mono ?_
                      rintro e w7 ⟨g6, cap6, rfl, hO, hG⟩
                      have S6 : Hid (St w w2.heap.size j q wr.heap.size R w7 g6 cap6 (((((l' ++ [192, 12]) ++ be16 1) ++ be16 R.r.cls) ++ be32 R.r.ttl) ++ be16 (dl : Int))) := S5.out.step hG hO
                      have L6 : Hid ((((((l' ++ [192, 12]) ++ be16 1) ++ be16 R.r.cls) ++ be32 R.r.ttl) ++ be16 (dl : Int)).length = ll + 2 + 2 + 2 + 4 + 2) := by show _ = _; rw [List.length_append, L5.out]; rfl
                      obtain ⟨z0, z1, z2, z3, z4⟩ := S6.out.box.cells
                      rw [← HDL.out] at z4
                      clear hO hG S5 L5 z0 z1
                      go_wp2_with (at_builtin; refine wpList_append_bytes rfl (.tmp 173) (.tmp 175) rfl w2.heap.size g6 cap6 (ll + 2 + 2 + 2 + 4 + 2) R.dc R.da (((((l' ++ [192, 12]) ++ be16 1) ++ be16 R.r.cls) ++ be32 R.r.ttl) ++ be16 (dl : Int)) R.r.data S6.out.own L6.out rfl (by rw [← HDL.out]; rfl) S6.out.data QN.out (by rw [← HDL.out]; omega) S6.out.size ?_)
                      intro g7 cap7 w8 hO hG
                      have S7 := S6.out.step hG hO
                      have S8 : Hid (St w w2.heap.size j q wr.heap.size R w8 g7 cap7 (l' ++ R.r.enc)) := by rw [← rec_push l' R.r [192, 12] 1 dl HE.out.1 HE.out.2.1 HDL.out]; show St _ _ _ _ _ _ _ _ _ _; simpa using S7
                      rw [← HDL.out]
                      clear hO hG S6 L6 S7 z2 z3 z4
                      go_wp2
                      go_roundw
                      case rel =>
                        have hlen : ll + 2 + 2 + 2 + 4 + 2 + dl = ll + R.r.len := by unfold Rec.len; rw [HE.out.2.2, ← HDL.out]; omega
                        have LL8 : (l' ++ R.r.enc).length = ll + 2 + 2 + 2 + 4 + 2 + dl := by rw [List.length_append, LL.out, R.r.enc_length, hlen]
                        exact ⟨x + 1, g7, cap7, _, c, _, _, by omega, by go_num, rfl, rfl, rfl, LL8, by omega, by omega, by omega, by omega, by omega, lx_step LX.out hx' HRX.out, tx_miss TX.out hx' HRX.out (by rw [HO.out]; simp) hlen, S8.out.own, S8.out.qq, S8.out.below, S8.out.size⟩
                      case measure => simp [intOf]; omega
                  · replace hp : R.r.ptr = false := by simpa using hp
                    by_cases ho : R.r.opt = true
                    · have HE : Hid (R.r.name = [0] ∧ R.r.typ = 41 ∧ R.r.d = 1) := ⟨by unfold Rec.name; rw [hp]; rfl, by unfold Rec.typ; rw [ho]; rfl, by unfold Rec.d; rw [hp]; rfl⟩
                      have HO : Hid (R.r.opt = true) := ho
                      rw [hp] at q0 S1
                      rw [ho] at q1 S1
                      clear hp ho
                      go_wp2_with (at_builtin; refine wpList_append_bytes rfl (.tmp 139) (.tmp 140) rfl w2.heap.size g1 cap1 ll 1 (some ⟨wr.heap.size + 1, 0, none⟩) l' [0] (S1.out.own.alloc _) LL.out rfl rfl (arg_new _ _ (by simp) [0] (by decide) (by decide)) (by intro h; cases h) (by simp; omega) (by simp; omega) ?_)
                      intro g2 cap2 w3 hO hG
                      have S2 : Hid (St w w2.heap.size j q wr.heap.size R w3 g2 cap2 (l' ++ [0])) := S1.out.step (grownBy_trans (World.grownBy_alloc _ _ _) hG) hO
                      have L2 : Hid ((l' ++ [0]).length = ll + 1) := by show _ = _; rw [List.length_append, LL.out]; rfl
                      obtain ⟨z0, z1, z2, z3, z4⟩ := S2.out.box.cells
                      rw [HO.out] at z1
                      clear hO hG S1 q0 q1 q2 q3 q4 z0 z2 z3 z4
                      go_wp2_with fail
                      refine (append16_n w2.heap.size g2 cap2 (ll + 1) (l' ++ [0]) 41 _ S2.out.own L2.out (by omega) (by omega) (by omega) S2.out.size).mono ?_
                      rintro e w4 ⟨g3, cap3, rfl, hO, hG⟩
                      have S3 : Hid (St w w2.heap.size j q wr.heap.size R w4 g3 cap3 ((l' ++ [0]) ++ be16 41)) := S2.out.step hG hO
                      have L3 : Hid (((l' ++ [0]) ++ be16 41).length = ll + 1 + 2) := by show _ = _; rw [List.length_append, L2.out]; rfl
                      obtain ⟨z0, z1, z2, z3, z4⟩ := S3.out.box.cells
                      rw [← HDL.out] at z4
                      clear hO hG S2 L2 z0 z1
                      go_wp2_with fail
                      refine (append16_n w2.heap.size g3 cap3 (ll + 1 + 2) ((l' ++ [0]) ++ be16 41) R.r.cls _ S3.out.own L3.out (by omega) qb.1 qb.2.1 S3.out.size).mono ?_
                      rintro e w5 ⟨g4, cap4, rfl, hO, hG⟩
                      have S4 : Hid (St w w2.heap.size j q wr.heap.size R w5 g4 cap4 (((l' ++ [0]) ++ be16 41) ++ be16 R.r.cls)) := S3.out.step hG hO
                      have L4 : Hid ((((l' ++ [0]) ++ be16 41) ++ be16 R.r.cls).length = ll + 1 + 2 + 2) := by show _ = _; rw [List.length_append, L3.out]; rfl
                      obtain ⟨z0, z1, z2, z3, z4⟩ := S4.out.box.cells
                      rw [← HDL.out] at z4
                      clear hO hG S3 L3 z0 z1
                      go_wp2_with fail
                      refine (append32_n w2.heap.size g4 cap4 (ll + 1 + 2 + 2) (((l' ++ [0]) ++ be16 41) ++ be16 R.r.cls) R.r.ttl _ S4.out.own L4.out (by omega) qb.2.2.1 qb.2.2.2 S4.out.size).mono ?_
                      rintro e w6 ⟨g5, cap5, rfl, hO, hG⟩
                      have S5 : Hid (St w w2.heap.size j q wr.heap.size R w6 g5 cap5 ((((l' ++ [0]) ++ be16 41) ++ be16 R.r.cls) ++ be32 R.r.ttl)) := S4.out.step hG hO
                      have L5 : Hid (((((l' ++ [0]) ++ be16 41) ++ be16 R.r.cls) ++ be32 R.r.ttl).length = ll + 1 + 2 + 2 + 4) := by show _ = _; rw [List.length_append, L4.out]; rfl
                      obtain ⟨z0, z1, z2, z3, z4⟩ := S5.out.box.cells
                      rw [← HDL.out] at z4
                      clear hO hG S4 L4 z0 z1
                      go_wp2_with fail
                      refine (append16_n w2.heap.size g5 cap5 (ll + 1 + 2 + 2 + 4) ((((l' ++ [0]) ++ be16 41) ++ be16 R.r.cls) ++ be32 R.r.ttl) (dl : Int) _ S5.out.own L5.out (by omega) (by omega) (by omega) S5.out.size).mono ?_
                      rintro e w7 ⟨g6, cap6, rfl, hO, hG⟩
                      have S6 : Hid (St w w2.heap.size j q wr.heap.size R w7 g6 cap6 (((((l' ++ [0]) ++ be16 41) ++ be16 R.r.cls) ++ be32 R.r.ttl) ++ be16 (dl : Int))) := S5.out.step hG hO
                      have L6 : Hid ((((((l' ++ [0]) ++ be16 41) ++ be16 R.r.cls) ++ be32 R.r.ttl) ++ be16 (dl : Int)).length = ll + 1 + 2 + 2 + 4 + 2) := by show _ = _; rw [List.length_append, L5.out]; rfl
                      obtain ⟨z0, z1, z2, z3, z4⟩ := S6.out.box.cells
                      rw [← HDL.out] at z4
                      clear hO hG S5 L5 z0 z1
                      go_wp2_with (at_builtin; refine wpList_append_bytes rfl (.tmp 173) (.tmp 175) rfl w2.heap.size g6 cap6 (ll + 1 + 2 + 2 + 4 + 2) R.dc R.da (((((l' ++ [0]) ++ be16 41) ++ be16 R.r.cls) ++ be32 R.r.ttl) ++ be16 (dl : Int)) R.r.data S6.out.own L6.out rfl (by rw [← HDL.out]; rfl) S6.out.data QN.out (by rw [← HDL.out]; omega) S6.out.size ?_)
                      intro g7 cap7 w8 hO hG
                      have S7 := S6.out.step hG hO
                      have S8 : Hid (St w w2.heap.size j q wr.heap.size R w8 g7 cap7 (l' ++ R.r.enc)) := by rw [← rec_push l' R.r [0] 41 dl HE.out.1 HE.out.2.1 HDL.out]; show St _ _ _ _ _ _ _ _ _ _; simpa using S7
                      rw [← HDL.out]
                      clear hO hG S6 L6 S7 z2 z3 z4
                      go_wp2
                      go_roundw
                      case rel =>
                        have hlen : ll + 1 + 2 + 2 + 4 + 2 + dl = ll + R.r.len := by unfold Rec.len; rw [HE.out.2.2, ← HDL.out]; omega
                        have LL8 : (l' ++ R.r.enc).length = ll + 1 + 2 + 2 + 4 + 2 + dl := by rw [List.length_append, LL.out, R.r.enc_length, hlen]
                        exact ⟨x + 1, g7, cap7, _, c + 1, _, _, by omega, by go_num, rfl, rfl, by go_num, LL8, by omega, by omega, by omega, by omega, by omega, lx_step LX.out hx' HRX.out, tx_hit TX.out hx' HRX.out (by omega) HO.out hlen (by rw [HE.out.2.2]; omega), S8.out.own, S8.out.qq, S8.out.below, S8.out.size⟩
                      case measure => simp [intOf]; omega
                    · replace ho : R.r.opt = false := by simpa using ho
                      have HE : Hid (R.r.name = [0] ∧ R.r.typ = 1 ∧ R.r.d = 1) := ⟨by unfold Rec.name; rw [hp]; rfl, by unfold Rec.typ; rw [ho]; rfl, by unfold Rec.d; rw [hp]; rfl⟩
                      have HO : Hid (R.r.opt = false) := ho
                      rw [hp] at q0 S1
                      rw [ho] at q1 S1
                      clear hp ho
                      go_wp2_with (at_builtin; refine wpList_append_bytes rfl (.tmp 139) (.tmp 140) rfl w2.heap.size g1 cap1 ll 1 (some ⟨wr.heap.size + 1, 0, none⟩) l' [0] (S1.out.own.alloc _) LL.out rfl rfl (arg_new _ _ (by simp) [0] (by decide) (by decide)) (by intro h; cases h) (by simp; omega) (by simp; omega) ?_)
                      intro g2 cap2 w3 hO hG
                      have S2 : Hid (St w w2.heap.size j q wr.heap.size R w3 g2 cap2 (l' ++ [0])) := S1.out.step (grownBy_trans (World.grownBy_alloc _ _ _) hG) hO
                      have L2 : Hid ((l' ++ [0]).length = ll + 1) := by show _ = _; rw [List.length_append, LL.out]; rfl
                      obtain ⟨z0, z1, z2, z3, z4⟩ := S2.out.box.cells
                      rw [HO.out] at z1
                      clear hO hG S1 q0 q1 q2 q3 q4 z0 z2 z3 z4
                      go_wp2_with fail
                      refine (append16_n w2.heap.size g2 cap2 (ll + 1) (l' ++ [0]) 1 _ S2.out.own L2.out (by omega) (by omega) (by omega) S2.out.size).mono ?_
                      rintro e w4 ⟨g3, cap3, rfl, hO, hG⟩
                      have S3 : Hid (St w w2.heap.size j q wr.heap.size R w4 g3 cap3 ((l' ++ [0]) ++ be16 1)) := S2.out.step hG hO
                      have L3 : Hid (((l' ++ [0]) ++ be16 1).length = ll + 1 + 2) := by show _ = _; rw [List.length_append, L2.out]; rfl
                      obtain ⟨z0, z1, z2, z3, z4⟩ := S3.out.box.cells
                      rw [← HDL.out] at z4
                      clear hO hG S2 L2 z0 z1
                      go_wp2_with fail
                      refine (append16_n w2.heap.size g3 cap3 (ll + 1 + 2) ((l' ++ [0]) ++ be16 1) R.r.cls _ S3.out.own L3.out (by omega) qb.1 qb.2.1 S3.out.size).mono ?_
                      rintro e w5 ⟨g4, cap4, rfl, hO, hG⟩
                      have S4 : Hid (St w w2.heap.size j q wr.heap.size R w5 g4 cap4 (((l' ++ [0]) ++ be16 1) ++ be16 R.r.cls)) := S3.out.step hG hO
                      have L4 : Hid ((((l' ++ [0]) ++ be16 1) ++ be16 R.r.cls).length = ll + 1 + 2 + 2) := by show _ = _; rw [List.length_append, L3.out]; rfl
                      obtain ⟨z0, z1, z2, z3, z4⟩ := S4.out.box.cells
                      rw [← HDL.out] at z4
                      clear hO hG S3 L3 z0 z1
                      go_wp2_with fail
                      refine (append32_n w2.heap.size g4 cap4 (ll + 1 + 2 + 2) (((l' ++ [0]) ++ be16 1) ++ be16 R.r.cls) R.r.ttl _ S4.out.own L4.out (by omega) qb.2.2.1 qb.2.2.2 S4.out.size).mono ?_
                      rintro e w6 ⟨g5, cap5, rfl, hO, hG⟩
                      have S5 : Hid (St w w2.heap.size j q wr.heap.size R w6 g5 cap5 ((((l' ++ [0]) ++ be16 1) ++ be16 R.r.cls) ++ be32 R.r.ttl)) := S4.out.step hG hO
                      have L5 : Hid (((((l' ++ [0]) ++ be16 1) ++ be16 R.r.cls) ++ be32 R.r.ttl).length = ll + 1 + 2 + 2 + 4) := by show _ = _; rw [List.length_append, L4.out]; rfl
                      obtain ⟨z0, z1, z2, z3, z4⟩ := S5.out.box.cells
                      rw [← HDL.out] at z4
                      clear hO hG S4 L4 z0 z1
                      go_wp2_with fail
                      refine (append16_n w2.heap.size g5 cap5 (ll + 1 + 2 + 2 + 4) ((((l' ++ [0]) ++ be16 1) ++ be16 R.r.cls) ++ be32 R.r.ttl) (dl : Int) _ S5.out.own L5.out (by omega) (by omega) (by omega) S5.out.size).mono ?_
                      rintro e w7 ⟨g6, cap6, rfl, hO, hG⟩
                      have S6 : Hid (St w w2.heap.size j q wr.heap.size R w7 g6 cap6 (((((l' ++ [0]) ++ be16 1) ++ be16 R.r.cls) ++ be32 R.r.ttl) ++ be16 (dl : Int))) := S5.out.step hG hO
                      have L6 : Hid ((((((l' ++ [0]) ++ be16 1) ++ be16 R.r.cls) ++ be32 R.r.ttl) ++ be16 (dl : Int)).length = ll + 1 + 2 + 2 + 4 + 2) := by show _ = _; rw [List.length_append, L5.out]; rfl
                      obtain ⟨z0, z1, z2, z3, z4⟩ := S6.out.box.cells
                      rw [← HDL.out] at z4
                      clear hO hG S5 L5 z0 z1
                      go_wp2_with (at_builtin; refine wpList_append_bytes rfl (.tmp 173) (.tmp 175) rfl w2.heap.size g6 cap6 (ll + 1 + 2 + 2 + 4 + 2) R.dc R.da (((((l' ++ [0]) ++ be16 1) ++ be16 R.r.cls) ++ be32 R.r.ttl) ++ be16 (dl : Int)) R.r.data S6.out.own L6.out rfl (by rw [← HDL.out]; rfl) S6.out.data QN.out (by rw [← HDL.out]; omega) S6.out.size ?_)
                      intro g7 cap7 w8 hO hG
                      have S7 := S6.out.step hG hO
                      have S8 : Hid (St w w2.heap.size j q wr.heap.size R w8 g7 cap7 (l' ++ R.r.enc)) := by rw [← rec_push l' R.r [0] 1 dl HE.out.1 HE.out.2.1 HDL.out]; show St _ _ _ _ _ _ _ _ _ _; simpa using S7
                      rw [← HDL.out]
                      clear hO hG S6 L6 S7 z2 z3 z4
                      go_wp2
                      go_roundw
                      case rel =>
                        have hlen : ll + 1 + 2 + 2 + 4 + 2 + dl = ll + R.r.len := by unfold Rec.len; rw [HE.out.2.2, ← HDL.out]; omega
                        have LL8 : (l' ++ R.r.enc).length = ll + 1 + 2 + 2 + 4 + 2 + dl := by rw [List.length_append, LL.out, R.r.enc_length, hlen]
                        exact ⟨x + 1, g7, cap7, _, c, _, _, by omega, by go_num, rfl, rfl, rfl, LL8, by omega, by omega, by omega, by omega, by omega, lx_step LX.out hx' HRX.out, tx_miss TX.out hx' HRX.out (by rw [HO.out]; simp) hlen, S8.out.own, S8.out.qq, S8.out.below, S8.out.size⟩
                      case measure => simp [intOf]; omega
                · by_cases hp : R.r.ptr = true
                  · by_cases ho : R.r.opt = true
                    · have HE : Hid (R.r.name = [192, 12] ∧ R.r.typ = 41 ∧ R.r.d = 2) := ⟨by unfold Rec.name; rw [hp]; rfl, by unfold Rec.typ; rw [ho]; rfl, by unfold Rec.d; rw [hp]; rfl⟩
                      have HO : Hid (R.r.opt = true) := ho
                      rw [hp] at q0 S1
                      rw [ho] at q1 S1
                      clear hp ho
                      go_wp2_with (at_builtin; refine wpList_append_bytes rfl (.tmp 136) (.tmp 137) rfl w2.heap.size g1 cap1 ll 2 (some ⟨wr.heap.size + 1, 0, none⟩) l' [192, 12] (S1.out.own.alloc _) LL.out rfl rfl (arg_new _ _ (by simp) [192, 12] (by decide) (by decide)) (by intro h; cases h) (by simp; omega) (by simp; omega) ?_)
                      intro g2 cap2 w3 hO hG
                      have S2 : Hid (St w w2.heap.size j q wr.heap.size R w3 g2 cap2 (l' ++ [192, 12])) := S1.out.step (grownBy_trans (World.grownBy_alloc _ _ _) hG) hO
                      have L2 : Hid ((l' ++ [192, 12]).length = ll + 2) := by show _ = _; rw [List.length_append, LL.out]; rfl
                      obtain ⟨z0, z1, z2, z3, z4⟩ := S2.out.box.cells
                      rw [HO.out] at z1
                      clear hO hG S1 q0 q1 q2 q3 q4 z0 z2 z3 z4
                      go_wp2_with fail
                      refine (append16_n w2.heap.size g2 cap2 (ll + 2) (l' ++ [192, 12]) 41 _ S2.out.own L2.out (by omega) (by omega) (by omega) S2.out.size).mono ?_
                      rintro e w4 ⟨g3, cap3, rfl, hO, hG⟩
                      have S3 : Hid (St w w2.heap.size j q wr.heap.size R w4 g3 cap3 ((l' ++ [192, 12]) ++ be16 41)) := S2.out.step hG hO
                      have L3 : Hid (((l' ++ [192, 12]) ++ be16 41).length = ll + 2 + 2) := by show _ = _; rw [List.length_append, L2.out]; rfl
                      obtain ⟨z0, z1, z2, z3, z4⟩ := S3.out.box.cells
                      rw [← HDL.out] at z4
                      clear hO hG S2 L2 z0 z1
                      go_wp2_with fail
                      refine (append16_n w2.heap.size g3 cap3 (ll + 2 + 2) ((l' ++ [192, 12]) ++ be16 41) R.r.cls _ S3.out.own L3.out (by omega) qb.1 qb.2.1 S3.out.size).mono ?_
                      rintro e w5 ⟨g4, cap4, rfl, hO, hG⟩
                      have S4 : Hid (St w w2.heap.size j q wr.heap.size R w5 g4 cap4 (((l' ++ [192, 12]) ++ be16 41) ++ be16 R.r.cls)) := S3.out.step hG hO
                      have L4 : Hid ((((l' ++ [192, 12]) ++ be16 41) ++ be16 R.r.cls).length = ll + 2 + 2 + 2) := by show _ = _; rw [List.length_append, L3.out]; rfl
                      obtain ⟨z0, z1, z2, z3, z4⟩ := S4.out.box.cells
                      rw [← HDL.out] at z4
                      clear hO hG S3 L3 z0 z1
                      go_wp2_with fail
                      refine (append32_n w2.heap.size g4 cap4 (ll + 2 + 2 + 2) (((l' ++ [192, 12]) ++ be16 41) ++ be16 R.r.cls) R.r.ttl _ S4.out.own L4.out (by omega) qb.2.2.1 qb.2.2.2 S4.out.size).mono ?_
                      rintro e w6 ⟨g5, cap5, rfl, hO, hG⟩
                      have S5 : Hid (St w w2.heap.size j q wr.heap.size R w6 g5 cap5 ((((l' ++ [192, 12]) ++ be16 41) ++ be16 R.r.cls) ++ be32 R.r.ttl)) := S4.out.step hG hO
                      have L5 : Hid (((((l' ++ [192, 12]) ++ be16 41) ++ be16 R.r.cls) ++ be32 R.r.ttl).length = ll + 2 + 2 + 2 + 4) := by show _ = _; rw [List.length_append, L4.out]; rfl
                      obtain ⟨z0, z1, z2, z3, z4⟩ := S5.out.box.cells
                      rw [← HDL.out] at z4
                      clear hO hG S4 L4 z0 z1
                      go_wp2_with fail
                      refine (append16_n w2.heap.size g5 cap5 (ll + 2 + 2 + 2 + 4) ((((l' ++ [192, 12]) ++ be16 41) ++ be16 R.r.cls) ++ be32 R.r.ttl) (dl : Int) _ S5.out.own L5.out (by omega) (by omega) (by omega) S5.out.size).mono ?_
                      rintro e w7 ⟨g6, cap6, rfl, hO, hG⟩
                      have S6 : Hid (St w w2.heap.size j q wr.heap.size R w7 g6 cap6 (((((l' ++ [192, 12]) ++ be16 41) ++ be16 R.r.cls) ++ be32 R.r.ttl) ++ be16 (dl : Int))) := S5.out.step hG hO
                      have L6 : Hid ((((((l' ++ [192, 12]) ++ be16 41) ++ be16 R.r.cls) ++ be32 R.r.ttl) ++ be16 (dl : Int)).length = ll + 2 + 2 + 2 + 4 + 2) := by show _ = _; rw [List.length_append, L5.out]; rfl
                      obtain ⟨z0, z1, z2, z3, z4⟩ := S6.out.box.cells
                      rw [← HDL.out] at z4
                      clear hO hG S5 L5 z0 z1
                      go_wp2_with (at_builtin; refine wpList_append_bytes rfl (.tmp 173) (.tmp 175) rfl w2.heap.size g6 cap6 (ll + 2 + 2 + 2 + 4 + 2) R.dc R.da (((((l' ++ [192, 12]) ++ be16 41) ++ be16 R.r.cls) ++ be32 R.r.ttl) ++ be16 (dl : Int)) R.r.data S6.out.own L6.out rfl (by rw [← HDL.out]; rfl) S6.out.data QN.out (by rw [← HDL.out]; omega) S6.out.size ?_)
                      intro g7 cap7 w8 hO hG
                      have S7 := S6.out.step hG hO
                      have S8 : Hid (St w w2.heap.size j q wr.heap.size R w8 g7 cap7 (l' ++ R.r.enc)) := by rw [← rec_push l' R.r [192, 12] 41 dl HE.out.1 HE.out.2.1 HDL.out]; show St _ _ _ _ _ _ _ _ _ _; simpa using S7
                      rw [← HDL.out]
                      clear hO hG S6 L6 S7 z2 z3 z4
                      go_wp2
                      go_roundw
                      case rel =>
                        have hlen : ll + 2 + 2 + 2 + 4 + 2 + dl = ll + R.r.len := by unfold Rec.len; rw [HE.out.2.2, ← HDL.out]; omega
                        have LL8 : (l' ++ R.r.enc).length = ll + 2 + 2 + 2 + 4 + 2 + dl := by rw [List.length_append, LL.out, R.r.enc_length, hlen]
                        exact ⟨x + 1, g7, cap7, _, c, _, _, by omega, by go_num, rfl, rfl, rfl, LL8, by omega, by omega, by omega, by omega, by omega, lx_step LX.out hx' HRX.out, tx_miss TX.out hx' HRX.out (fun h => by omega) hlen, S8.out.own, S8.out.qq, S8.out.below, S8.out.size⟩
                      case measure => simp [intOf]; omega
                    · replace ho : R.r.opt = false := by simpa using ho
                      have HE : Hid (R.r.name = [192, 12] ∧ R.r.typ = 1 ∧ R.r.d = 2) := ⟨by unfold Rec.name; rw [hp]; rfl, by unfold Rec.typ; rw [ho]; rfl, by unfold Rec.d; rw [hp]; rfl⟩
                      have HO : Hid (R.r.opt = false) := ho
                      rw [hp] at q0 S1
                      rw [ho] at q1 S1
                      clear hp ho
                      go_wp2_with (at_builtin; refine wpList_append_bytes rfl (.tmp 136) (.tmp 137) rfl w2.heap.size g1 cap1 ll 2 (some ⟨wr.heap.size + 1, 0, none⟩) l' [192, 12] (S1.out.own.alloc _) LL.out rfl rfl (arg_new _ _ (by simp) [192, 12] (by decide) (by decide)) (by intro h; cases h) (by simp; omega) (by simp; omega) ?_)
                      intro g2 cap2 w3 hO hG
                      have S2 : Hid (St w w2.heap.size j q wr.heap.size R w3 g2 cap2 (l' ++ [192, 12])) := S1.out.step (grownBy_trans (World.grownBy_alloc _ _ _) hG) hO
                      have L2 : Hid ((l' ++ [192, 12]).length = ll + 2) := by show _ = _; rw [List.length_append, LL.out]; rfl
                      obtain ⟨z0, z1, z2, z3, z4⟩ := S2.out.box.cells
                      rw [HO.out] at z1
                      clear hO hG S1 q0 q1 q2 q3 q4 z0 z2 z3 z4
                      go_wp2_with fail
                      refine (append16_n w2.heap.size g2 cap2 (ll + 2) (l' ++ [192, 12]) 1 _ S2.out.own L2.out (by omega) (by omega) (by omega) S2.out.size).mono ?_
                      rintro e w4 ⟨g3, cap3, rfl, hO, hG⟩
                      have S3 : Hid (St w w2.heap.size j q wr.heap.size R w4 g3 cap3 ((l' ++ [192, 12]) ++ be16 1)) := S2.out.step hG hO
                      have L3 : Hid (((l' ++ [192, 12]) ++ be16 1).length = ll + 2 + 2) := by show _ = _; rw [List.length_append, L2.out]; rfl
                      obtain ⟨z0, z1, z2, z3, z4⟩ := S3.out.box.cells
                      rw [← HDL.out] at z4
                      clear hO hG S2 L2 z0 z1
                      go_wp2_with fail
                      refine (append16_n w2.heap.size g3 cap3 (ll + 2 + 2) ((l' ++ [192, 12]) ++ be16 1) R.r.cls _ S3.out.own L3.out (by omega) qb.1 qb.2.1 S3.out.size).mono ?_
                      rintro e w5 ⟨g4, cap4, rfl, hO, hG⟩
                      have S4 : Hid (St w w2.heap.size j q wr.heap.size R w5 g4 cap4 (((l' ++ [192, 12]) ++ be16 1) ++ be16 R.r.cls)) := S3.out.step hG hO
                      have L4 : Hid ((((l' ++ [192, 12]) ++ be16 1) ++ be16 R.r.cls).length = ll + 2 + 2 + 2) := by show _ = _; rw [List.length_append, L3.out]; rfl
                      obtain ⟨z0, z1, z2, z3, z4⟩ := S4.out.box.cells
                      rw [← HDL.out] at z4
                      clear hO hG S3 L3 z0 z1
                      go_wp2_with fail
                      refine (append32_n w2.heap.size g4 cap4 (ll + 2 + 2 + 2) (((l' ++ [192, 12]) ++ be16 1) ++ be16 R.r.cls) R.r.ttl _ S4.out.own L4.out (by omega) qb.2.2.1 qb.2.2.2 S4.out.size).mono ?_
                      rintro e w6 ⟨g5, cap5, rfl, hO, hG⟩
                      have S5 : Hid (St w w2.heap.size j q wr.heap.size R w6 g5 cap5 ((((l' ++ [192, 12]) ++ be16 1) ++ be16 R.r.cls) ++ be32 R.r.ttl)) := S4.out.step hG hO
                      have L5 : Hid (((((l' ++ [192, 12]) ++ be16 1) ++ be16 R.r.cls) ++ be32 R.r.ttl).length = ll + 2 + 2 + 2 + 4) := by show _ = _; rw [List.length_append, L4.out]; rfl
                      obtain ⟨z0, z1, z2, z3, z4⟩ := S5.out.box.cells
                      rw [← HDL.out] at z4
                      clear hO hG S4 L4 z0 z1
                      go_wp2_with fail
                      refine (append16_n w2.heap.size g5 cap5 (ll + 2 + 2 + 2 + 4) ((((l' ++ [192, 12]) ++ be16 1) ++ be16 R.r.cls) ++ be32 R.r.ttl) (dl : Int) _ S5.out.own L5.out (by omega) (by omega) (by omega) S5.out.size).mono ?_
                      rintro e w7 ⟨g6, cap6, rfl, hO, hG⟩
                      have S6 : Hid (St w w2.heap.size j q wr.heap.size R w7 g6 cap6 (((((l' ++ [192, 12]) ++ be16 1) ++ be16 R.r.cls) ++ be32 R.r.ttl) ++ be16 (dl : Int))) := S5.out.step hG hO
                      have L6 : Hid ((((((l' ++ [192, 12]) ++ be16 1) ++ be16 R.r.cls) ++ be32 R.r.ttl) ++ be16 (dl : Int)).length = ll + 2 + 2 + 2 + 4 + 2) := by show _ = _; rw [List.length_append, L5.out]; rfl
                      obtain ⟨z0, z1, z2, z3, z4⟩ := S6.out.box.cells
                      rw [← HDL.out] at z4
                      clear hO hG S5 L5 z0 z1
                      go_wp2_with (at_builtin; refine wpList_append_bytes rfl (.tmp 173) (.tmp 175) rfl w2.heap.size g6 cap6 (ll + 2 + 2 + 2 + 4 + 2) R.dc R.da (((((l' ++ [192, 12]) ++ be16 1) ++ be16 R.r.cls) ++ be32 R.r.ttl) ++ be16 (dl : Int)) R.r.data S6.out.own L6.out rfl (by rw [← HDL.out]; rfl) S6.out.data QN.out (by rw [← HDL.out]; omega) S6.out.size ?_)
                      intro g7 cap7 w8 hO hG
                      have S7 := S6.out.step hG hO
                      have S8 : Hid (St w w2.heap.size j q wr.heap.size R w8 g7 cap7 (l' ++ R.r.enc)) := by rw [← rec_push l' R.r [192, 12] 1 dl HE.out.1 HE.out.2.1 HDL.out]; show St _ _ _ _ _ _ _ _ _ _; simpa using S7
                      rw [← HDL.out]
                      clear hO hG S6 L6 S7 z2 z3 z4
                      go_wp2
                      go_roundw
                      case rel =>
                        have hlen : ll + 2 + 2 + 2 + 4 + 2 + dl = ll + R.r.len := by unfold Rec.len; rw [HE.out.2.2, ← HDL.out]; omega
                        have LL8 : (l' ++ R.r.enc).length = ll + 2 + 2 + 2 + 4 + 2 + dl := by rw [List.length_append, LL.out, R.r.enc_length, hlen]
                        exact ⟨x + 1, g7, cap7, _, c, _, _, by omega, by go_num, rfl, rfl, rfl, LL8, by omega, by omega, by omega, by omega, by omega, lx_step LX.out hx' HRX.out, tx_miss TX.out hx' HRX.out (by rw [HO.out]; simp) hlen, S8.out.own, S8.out.qq, S8.out.below, S8.out.size⟩
                      case measure => simp [intOf]; omega
                  · replace hp : R.r.ptr = false := by simpa using hp
                    by_cases ho : R.r.opt = true
                    · have HE : Hid (R.r.name = [0] ∧ R.r.typ = 41 ∧ R.r.d = 1) := ⟨by unfold Rec.name; rw [hp]; rfl, by unfold Rec.typ; rw [ho]; rfl, by unfold Rec.d; rw [hp]; rfl⟩
                      have HO : Hid (R.r.opt = true) := ho
                      rw [hp] at q0 S1
                      rw [ho] at q1 S1
                      clear hp ho
                      go_wp2_with (at_builtin; refine wpList_append_bytes rfl (.tmp 139) (.tmp 140) rfl w2.heap.size g1 cap1 ll 1 (some ⟨wr.heap.size + 1, 0, none⟩) l' [0] (S1.out.own.alloc _) LL.out rfl rfl (arg_new _ _ (by simp) [0] (by decide) (by decide)) (by intro h; cases h) (by simp; omega) (by simp; omega) ?_)
                      intro g2 cap2 w3 hO hG
                      have S2 : Hid (St w w2.heap.size j q wr.heap.size R w3 g2 cap2 (l' ++ [0])) := S1.out.step (grownBy_trans (World.grownBy_alloc _ _ _) hG) hO
                      have L2 : Hid ((l' ++ [0]).length = ll + 1) := by show _ = _; rw [List.length_append, LL.out]; rfl
                      obtain ⟨z0, z1, z2, z3, z4⟩ := S2.out.box.cells
                      rw [HO.out] at z1
                      clear hO hG S1 q0 q1 q2 q3 q4 z0 z2 z3 z4
                      go_wp2_with fail
                      refine (append16_n w2.heap.size g2 cap2 (ll + 1) (l' ++ [0]) 41 _ S2.out.own L2.out (by omega) (by omega) (by omega) S2.out.size).mono ?_
                      rintro e w4 ⟨g3, cap3, rfl, hO, hG⟩
                      have S3 : Hid (St w w2.heap.size j q wr.heap.size R w4 g3 cap3 ((l' ++ [0]) ++ be16 41)) := S2.out.step hG hO
                      have L3 : Hid (((l' ++ [0]) ++ be16 41).length = ll + 1 + 2) := by show _ = _; rw [List.length_append, L2.out]; rfl
                      obtain ⟨z0, z1, z2, z3, z4⟩ := S3.out.box.cells
                      rw [← HDL.out] at z4
                      clear hO hG S2 L2 z0 z1
                      go_wp2_with fail
                      refine (append16_n w2.heap.size g3 cap3 (ll + 1 + 2) ((l' ++ [0]) ++ be16 41) R.r.cls _ S3.out.own L3.out (by omega) qb.1 qb.2.1 S3.out.size).mono ?_
                      rintro e w5 ⟨g4, cap4, rfl, hO, hG⟩
                      have S4 : Hid (St w w2.heap.size j q wr.heap.size R w5 g4 cap4 (((l' ++ [0]) ++ be16 41) ++ be16 R.r.cls)) := S3.out.step hG hO
                      have L4 : Hid ((((l' ++ [0]) ++ be16 41) ++ be16 R.r.cls).length = ll + 1 + 2 + 2) := by show _ = _; rw [List.length_append, L3.out]; rfl
                      obtain ⟨z0, z1, z2, z3, z4⟩ := S4.out.box.cells
                      rw [← HDL.out] at z4
                      clear hO hG S3 L3 z0 z1
                      go_wp2_with fail
                      refine (append32_n w2.heap.size g4 cap4 (ll + 1 + 2 + 2) (((l' ++ [0]) ++ be16 41) ++ be16 R.r.cls) R.r.ttl _ S4.out.own L4.out (by omega) qb.2.2.1 qb.2.2.2 S4.out.size).mono ?_
                      rintro e w6 ⟨g5, cap5, rfl, hO, hG⟩
                      have S5 : Hid (St w w2.heap.size j q wr.heap.size R w6 g5 cap5 ((((l' ++ [0]) ++ be16 41) ++ be16 R.r.cls) ++ be32 R.r.ttl)) := S4.out.step hG hO
                      have L5 : Hid (((((l' ++ [0]) ++ be16 41) ++ be16 R.r.cls) ++ be32 R.r.ttl).length = ll + 1 + 2 + 2 + 4) := by show _ = _; rw [List.length_append, L4.out]; rfl
                      obtain ⟨z0, z1, z2, z3, z4⟩ := S5.out.box.cells
                      rw [← HDL.out] at z4
                      clear hO hG S4 L4 z0 z1
                      go_wp2_with fail
                      refine (append16_n w2.heap.size g5 cap5 (ll + 1 + 2 + 2 + 4) ((((l' ++ [0]) ++ be16 41) ++ be16 R.r.cls) ++ be32 R.r.ttl) (dl : Int) _ S5.out.own L5.out (by omega) (by omega) (by omega) S5.out.size).mono ?_
                      rintro e w7 ⟨g6, cap6, rfl, hO, hG⟩
                      have S6 : Hid (St w w2.heap.size j q wr.heap.size R w7 g6 cap6 (((((l' ++ [0]) ++ be16 41) ++ be16 R.r.cls) ++ be32 R.r.ttl) ++ be16 (dl : Int))) := S5.out.step hG hO
                      have L6 : Hid ((((((l' ++ [0]) ++ be16 41) ++ be16 R.r.cls) ++ be32 R.r.ttl) ++ be16 (dl : Int)).length = ll + 1 + 2 + 2 + 4 + 2) := by show _ = _; rw [List.length_append, L5.out]; rfl
                      obtain ⟨z0, z1, z2, z3, z4⟩ := S6.out.box.cells
                      rw [← HDL.out] at z4
                      clear hO hG S5 L5 z0 z1
                      go_wp2_with (at_builtin; refine wpList_append_bytes rfl (.tmp 173) (.tmp 175) rfl w2.heap.size g6 cap6 (ll + 1 + 2 + 2 + 4 + 2) R.dc R.da (((((l' ++ [0]) ++ be16 41) ++ be16 R.r.cls) ++ be32 R.r.ttl) ++ be16 (dl : Int)) R.r.data S6.out.own L6.out rfl (by rw [← HDL.out]; rfl) S6.out.data QN.out (by rw [← HDL.out]; omega) S6.out.size ?_)
                      intro g7 cap7 w8 hO hG
                      have S7 := S6.out.step hG hO
                      have S8 : Hid (St w w2.heap.size j q wr.heap.size R w8 g7 cap7 (l' ++ R.r.enc)) := by rw [← rec_push l' R.r [0] 41 dl HE.out.1 HE.out.2.1 HDL.out]; show St _ _ _ _ _ _ _ _ _ _; simpa using S7
                      rw [← HDL.out]
                      clear hO hG S6 L6 S7 z2 z3 z4
                      go_wp2
                      go_roundw
                      case rel =>
                        have hlen : ll + 1 + 2 + 2 + 4 + 2 + dl = ll + R.r.len := by unfold Rec.len; rw [HE.out.2.2, ← HDL.out]; omega
                        have LL8 : (l' ++ R.r.enc).length = ll + 1 + 2 + 2 + 4 + 2 + dl := by rw [List.length_append, LL.out, R.r.enc_length, hlen]
                        exact ⟨x + 1, g7, cap7, _, c, _, _, by omega, by go_num, rfl, rfl, rfl, LL8, by omega, by omega, by omega, by omega, by omega, lx_step LX.out hx' HRX.out, tx_miss TX.out hx' HRX.out (fun h => by omega) hlen, S8.out.own, S8.out.qq, S8.out.below, S8.out.size⟩
                      case measure => simp [intOf]; omega
                    · replace ho : R.r.opt = false := by simpa using ho
                      have HE : Hid (R.r.name = [0] ∧ R.r.typ = 1 ∧ R.r.d = 1) := ⟨by unfold Rec.name; rw [hp]; rfl, by unfold Rec.typ; rw [ho]; rfl, by unfold Rec.d; rw [hp]; rfl⟩
                      have HO : Hid (R.r.opt = false) := ho
                      rw [hp] at q0 S1
                      rw [ho] at q1 S1
                      clear hp ho
                      go_wp2_with (at_builtin; refine wpList_append_bytes rfl (.tmp 139) (.tmp 140) rfl w2.heap.size g1 cap1 ll 1 (some ⟨wr.heap.size + 1, 0, none⟩) l' [0] (S1.out.own.alloc _) LL.out rfl rfl (arg_new _ _ (by simp) [0] (by decide) (by decide)) (by intro h; cases h) (by simp; omega) (by simp; omega) ?_)
                      intro g2 cap2 w3 hO hG
                      have S2 : Hid (St w w2.heap.size j q wr.heap.size R w3 g2 cap2 (l' ++ [0])) := S1.out.step (grownBy_trans (World.grownBy_alloc _ _ _) hG) hO
                      have L2 : Hid ((l' ++ [0]).length = ll + 1) := by show _ = _; rw [List.length_append, LL.out]; rfl
                      obtain ⟨z0, z1, z2, z3, z4⟩ := S2.out.box.cells
                      rw [HO.out] at z1
                      clear hO hG S1 q0 q1 q2 q3 q4 z0 z2 z3 z4
                      go_wp2_with fail
                      refine (append16_n w2.heap.size g2 cap2 (ll + 1) (l' ++ [0]) 1 _ S2.out.own L2.out (by omega) (by omega) (by omega) S2.out.size).mono ?_
                      rintro e w4 ⟨g3, cap3, rfl, hO, hG⟩
                      have S3 : Hid (St w w2.heap.size j q wr.heap.size R w4 g3 cap3 ((l' ++ [0]) ++ be16 1)) := S2.out.step hG hO
                      have L3 : Hid (((l' ++ [0]) ++ be16 1).length = ll + 1 + 2) := by show _ = _; rw [List.length_append, L2.out]; rfl
                      obtain ⟨z0, z1, z2, z3, z4⟩ := S3.out.box.cells
                      rw [← HDL.out] at z4
                      clear hO hG S2 L2 z0 z1
                      go_wp2_with fail
                      refine (append16_n w2.heap.size g3 cap3 (ll + 1 + 2) ((l' ++ [0]) ++ be16 1) R.r.cls _ S3.out.own L3.out (by omega) qb.1 qb.2.1 S3.out.size).mono ?_
                      rintro e w5 ⟨g4, cap4, rfl, hO, hG⟩
                      have S4 : Hid (St w w2.heap.size j q wr.heap.size R w5 g4 cap4 (((l' ++ [0]) ++ be16 1) ++ be16 R.r.cls)) := S3.out.step hG hO
                      have L4 : Hid ((((l' ++ [0]) ++ be16 1) ++ be16 R.r.cls).length = ll + 1 + 2 + 2) := by show _ = _; rw [List.length_append, L3.out]; rfl
                      obtain ⟨z0, z1, z2, z3, z4⟩ := S4.out.box.cells
                      rw [← HDL.out] at z4
                      clear hO hG S3 L3 z0 z1
                      go_wp2_with fail
                      refine (append32_n w2.heap.size g4 cap4 (ll + 1 + 2 + 2) (((l' ++ [0]) ++ be16 1) ++ be16 R.r.cls) R.r.ttl _ S4.out.own L4.out (by omega) qb.2.2.1 qb.2.2.2 S4.out.size).mono ?_
                      rintro e w6 ⟨g5, cap5, rfl, hO, hG⟩
                      have S5 : Hid (St w w2.heap.size j q wr.heap.size R w6 g5 cap5 ((((l' ++ [0]) ++ be16 1) ++ be16 R.r.cls) ++ be32 R.r.ttl)) := S4.out.step hG hO
                      have L5 : Hid (((((l' ++ [0]) ++ be16 1) ++ be16 R.r.cls) ++ be32 R.r.ttl).length = ll + 1 + 2 + 2 + 4) := by show _ = _; rw [List.length_append, L4.out]; rfl
                      obtain ⟨z0, z1, z2, z3, z4⟩ := S5.out.box.cells
                      rw [← HDL.out] at z4
                      clear hO hG S4 L4 z0 z1
                      go_wp2_with fail
                      refine (append16_n w2.heap.size g5 cap5 (ll + 1 + 2 + 2 + 4) ((((l' ++ [0]) ++ be16 1) ++ be16 R.r.cls) ++ be32 R.r.ttl) (dl : Int) _ S5.out.own L5.out (by omega) (by omega) (by omega) S5.out.size).mono ?_
                      rintro e w7 ⟨g6, cap6, rfl, hO, hG⟩
                      have S6 : Hid (St w w2.heap.size j q wr.heap.size R w7 g6 cap6 (((((l' ++ [0]) ++ be16 1) ++ be16 R.r.cls) ++ be32 R.r.ttl) ++ be16 (dl : Int))) := S5.out.step hG hO
                      have L6 : Hid ((((((l' ++ [0]) ++ be16 1) ++ be16 R.r.cls) ++ be32 R.r.ttl) ++ be16 (dl : Int)).length = ll + 1 + 2 + 2 + 4 + 2) := by show _ = _; rw [List.length_append, L5.out]; rfl
                      obtain ⟨z0, z1, z2, z3, z4⟩ := S6.out.box.cells
                      rw [← HDL.out] at z4
                      clear hO hG S5 L5 z0 z1
                      go_wp2_with (at_builtin; refine wpList_append_bytes rfl (.tmp 173) (.tmp 175) rfl w2.heap.size g6 cap6 (ll + 1 + 2 + 2 + 4 + 2) R.dc R.da (((((l' ++ [0]) ++ be16 1) ++ be16 R.r.cls) ++ be32 R.r.ttl) ++ be16 (dl : Int)) R.r.data S6.out.own L6.out rfl (by rw [← HDL.out]; rfl) S6.out.data QN.out (by rw [← HDL.out]; omega) S6.out.size ?_)
                      intro g7 cap7 w8 hO hG
                      have S7 := S6.out.step hG hO
                      have S8 : Hid (St w w2.heap.size j q wr.heap.size R w8 g7 cap7 (l' ++ R.r.enc)) := by rw [← rec_push l' R.r [0] 1 dl HE.out.1 HE.out.2.1 HDL.out]; show St _ _ _ _ _ _ _ _ _ _; simpa using S7
                      rw [← HDL.out]
                      clear hO hG S6 L6 S7 z2 z3 z4
                      go_wp2
                      go_roundw
                      case rel =>
                        have hlen : ll + 1 + 2 + 2 + 4 + 2 + dl = ll + R.r.len := by unfold Rec.len; rw [HE.out.2.2, ← HDL.out]; omega
                        have LL8 : (l' ++ R.r.enc).length = ll + 1 + 2 + 2 + 4 + 2 + dl := by rw [List.length_append, LL.out, R.r.enc_length, hlen]
                        exact ⟨x + 1, g7, cap7, _, c, _, _, by omega, by go_num, rfl, rfl, rfl, LL8, by omega, by omega, by omega, by omega, by omega, lx_step LX.out hx' HRX.out, tx_miss TX.out hx' HRX.out (by rw [HO.out]; simp) hlen, S8.out.own, S8.out.qq, S8.out.below, S8.out.size⟩
                      case measure => simp [intOf]; omega
              · obtain rfl : x = m := by omega
                have LXX : Hid (l' = hdr hid flags qd kk ((x : Int) - (kk : Int)) ++ area aq j ++ encAll (rs.map RecV.r)) := by
                  have h := LX.out
                  rw [List.take_of_length_le (by rw [← HN.out]; exact Nat.le_refl _)] at h
                  show _ = _
                  rw [h, LP.out]
                have TXX : Hid (tally kk (rs.map RecV.r) 0 (12 + j) 0 (-1) = (c, a)) := by
                  have h := TX.out
                  rw [List.drop_eq_nil_of_le (by rw [← HN.out]; exact Nat.le_refl _)] at h
                  exact h.symm
                have LLL : Hid (12 + j + lenAll (rs.map RecV.r) = ll) := by
                  have h := LL.out
                  rw [LXX.out, List.length_append, List.length_append, hdr_length, area_length, encAll_length] at h
                  exact h
                have hcapX := OX.out.cap.1
                rw [LL.out] at hcapX
                have hgX := OX.out.lt
                clear LX TX LP
                by_cases hbit : (bits BinOp.and IntKind.u16 cut 1 == 1) = true
                · obtain ⟨D, hD⟩ : ∃ D : Nat, (cut / 2) % ((ll : Int) - 11) = (D : Int) := ⟨((cut / 2) % ((ll : Int) - 11)).toNat, by have := Int.emod_nonneg (cut / 2) (show ((ll : Int) - 11) ≠ 0 by omega); omega⟩
                  have hDl : D + 12 ≤ ll := by have := Int.emod_lt_of_pos (cut / 2) (show 0 < ((ll : Int) - 11) by omega); omega
                  obtain ⟨L, hL⟩ : ∃ L : Nat, (ll : Int) - (D : Int) = (L : Int) := ⟨ll - D, by omega⟩
                  have hL1 : Hid (L + D = ll) := by show _ = _; omega
                  have hL2 : L ≤ ll := by omega
                  have hL3 : 12 ≤ L := by omega
                  obtain ⟨Z, hZ⟩ : ∃ Z, Z = l'.take L := ⟨_, rfl⟩
                  have ZL : Hid (Z.length = L) := by show _ = _; rw [hZ, List.length_take, LL.out]; omega
                  have HZ : Hid (Z = l'.take L) := hZ
                  have MZ : Hid (Own wr w2.heap.size g1 cap1 Z) := by rw [hZ]; exact OX.out.take L (by rw [LL.out]; exact hL2)
                  clear hZ OX
                  go_wp2_with (at_make; refine wpList_make_full _ rfl _ _ 23 rfl wr.heap.size 5 i0 (.int .u8 0) 1 Ybaf.underlying23 hi hz0 hz1 _ _ _ _ L rfl rfl (by omega) (by omega) (by rw [hz2]; omega) (by unfold maxLen; omega) (Nat.le_refl _) ?_)
                  intro w4 hown hgrow
                  have O4 : Hid (Own w4 wr.heap.size wr.heap.size L (List.replicate L 0)) := Own.mk hown (by simp) (by simp [toList_madeCells_one])
                  have M4 : Hid (Own w4 w2.heap.size g1 cap1 Z) := MZ.out.kept hgrow (by simp)
                  have Q4 : Hid (Own w4 w.heap.size w.heap.size j q) := QX.out.kept hgrow (by simp)
                  have B4 : Hid (Below w.heap.size w w4) := BX.out.grown hgrow BX.out.size (fun k hk => by cases hk)
                  have hs4 : wr.heap.size < w4.heap.size := O4.out.lt.2
                  clear hown hgrow MZ QX BX
                  go_wp2_with (refine wpList_copy_lay rfl (.tmp 197) (.tmp 198) rfl _ _ _ _ _ _ rfl rfl wr.heap.size wr.heap.size L 0 (List.replicate L 0) Z O4.out ?hdp100a ?hfit100a ZL.out ?hsp100a ?_)
                  case hfit100a => simp
                  case hsp100a => exact M4.out.src
                  intro w5 N5 hO hG
                  have O5 : Hid (Own w5 wr.heap.size wr.heap.size L Z) := by rw [lay_full L Z ZL.out.symm] at hO; exact hO
                  have M5 : Hid (Own w5 w2.heap.size g1 cap1 Z) := M4.out.kept hG (by simp; omega)
                  have Q5 : Hid (Own w5 w.heap.size w.heap.size j q) := Q4.out.kept hG (by simp; omega)
                  have B5 : Hid (Below w.heap.size w w5) := B4.out.grown hG B4.out.size (fun k hk => by cases hk; omega)
                  have hs5 : wr.heap.size < w5.heap.size := O5.out.lt.2
                  clear hO hG O4 M4 Q4 B4 hs4
                  go_wp2
                  refine wp_region_drew_tail 4 (by kernel_rfl) (by kernel_rfl) ?_
                  simp only [List.take_succ_cons, List.take_zero, List.drop_succ_cons, List.drop_zero]
                  iterate 4 (go_big_quiet_step (fail))
                  refine wpQuiet_nil ?_
                  intro wx hwx
                  obtain ⟨nq, rfl⟩ := hwx
                  go_wp2_with fail
                  refine (put16_any wr.heap.size wr.heap.size L 0 _ _ Z qid _ (O5.out.drewN nq) (by omega) (by rw [ZL.out]; omega) b1.1 b1.2).mono ?_
                  rintro e w6 ⟨rfl, hO, hG⟩
                  have O6 : Hid (Own w6 wr.heap.size wr.heap.size L (put16 Z 0 qid)) := hO
                  have G6 := grownBy_trans (grownBy_drewN w5 nq _) hG
                  have M6 : Hid (Own w6 w2.heap.size g1 cap1 Z) := M5.out.kept G6 (by simp; omega)
                  have Q6 : Hid (Own w6 w.heap.size w.heap.size j q) := Q5.out.kept G6 (by simp; omega)
                  have B6 : Hid (Below w.heap.size w w6) := B5.out.grown G6 B5.out.size (fun k hk => by cases hk; omega)
                  have hs6 : wr.heap.size < w6.heap.size := O6.out.lt.2
                  clear hO hG G6 O5 M5 Q5 B5 hs5 nq
                  have e12 : 12 + (L - 12) ≤ (put16 Z 0 qid).length := by rw [put16_length, ZL.out]; omega
                  go_wp2_with (refine wpList_copy_lay rfl (.tmp 206) (.tmp 207) rfl _ _ _ _ _ _ rfl rfl wr.heap.size wr.heap.size L 12 (put16 Z 0 qid) q O6.out (by intro _; rw [if_neg (by omega)]) e12 HQL.out.symm Q6.out.src ?_; intro w7 N7 hO hG; generalize (if L = 12 then (some ⟨wr.heap.size, 0, none⟩ : Option Addr) else some ⟨wr.heap.size, 12, none⟩) = dp)
                  · have hD0 : D = 0 := by assumption
                    have hc1 : ((c : Int) == 1) = true := by assumption
                    have hc2 : c = 1 := by simp only [beq_iff_eq] at hc1; omega
                    have hT := tally_at kk (rs.map RecV.r) 0 (12 + j) 0 (-1) ll (by have := LLL.out; omega) (Or.inl rfl) (by omega) (by rw [TXX.out]; simp only; omega)
                    rw [TXX.out] at hT
                    simp only at hT
                    obtain ⟨an, han⟩ : ∃ an : Nat, a = (an : Int) := ⟨a.toNat, by omega⟩
                    subst han
                    have HTX : Hid (tally kk (rs.map RecV.r) 0 (12 + j) 0 (-1) = (1, (an : Int))) := by rw [← hc2]; exact TXX.out
                    have han2 : an + 2 ≤ L := by have := hL1.out; omega
                    have O7 : Hid (Own w7 wr.heap.size wr.heap.size L (lay (put16 Z 0 qid) 12 (q.take (L - 12)))) := hO
                    have M7 : Hid (Own w7 w2.heap.size g1 cap1 Z) := M6.out.kept hG (by simp; omega)
                    have Q7 : Hid (Own w7 w.heap.size w.heap.size j q) := Q6.out.kept hG (by simp; omega)
                    have B7 : Hid (Below w.heap.size w w7) := B6.out.grown hG B6.out.size (fun k hk => by cases hk; omega)
                    have hs7 : wr.heap.size < w7.heap.size := O7.out.lt.2
                    clear hO hG O6 M6 Q6 B6 hs6
                    obtain ⟨V, hV⟩ : ∃ V, V = put16 (lay (put16 Z 0 qid) 12 (q.take (L - 12))) an 1232 := ⟨_, rfl⟩
                    have HV : Hid (V = fin16 (lay (put16 Z 0 qid) 12 (q.take (L - 12))) (scan kk L (rs.map RecV.r) 0 (12 + j) none)) := by
                      have e : L = ll := by have := hL1.out; omega
                      rw [hV]
                      show _ = _
                      rw [fin_hit HTX.out (ll := L) (by have := LLL.out; omega)]
                    have YL : Hid ((lay (put16 Z 0 qid) 12 (q.take (L - 12))).length = L) := by show _ = _; rw [lay_length _ _ _ (by rw [put16_length, ZL.out, List.length_take]; omega), put16_length, ZL.out]
                    have VL : Hid (V.length = L) := by show _ = _; rw [hV, put16_length, YL.out]
                    have HVV : Hid (V = put16 (lay (put16 Z 0 qid) 12 (q.take (L - 12))) an 1232) := hV
                    clear hV hT
                    have man : ¬ L = an := by omega
                    refine wp_region_drew_tail 4 (by kernel_rfl) (by kernel_rfl) ?_
                    simp only [List.take_succ_cons, List.take_zero, List.drop_succ_cons, List.drop_zero]
                    iterate 4 (go_big_quiet_step (fail))
                    refine wpQuiet_nil ?_
                    intro wx hwx
                    obtain ⟨nq, rfl⟩ := hwx
                    go_wp2_with fail
                    refine (put16_any wr.heap.size wr.heap.size L an _ _ _ 1232 _ (O7.out.drewN nq) (by omega) (by rw [YL.out]; omega) (by omega) (by omega)).mono ?_
                    rintro e w8 ⟨rfl, hO, hG⟩
                    have G8 := grownBy_trans (grownBy_drewN w7 nq _) hG
                    have M8 := M7.out.kept G8 (by simp; omega)
                    have Q8 := Q7.out.kept G8 (by simp; omega)
                    have B8 := B7.out.grown G8 B7.out.size (fun k hk => by cases hk; omega)
                    rw [← HVV.out] at hO
                    clear O7 M7 Q7 B7 hs7 HVV hG G8
                    have O7 : Hid (Own w8 wr.heap.size wr.heap.size L V) := hO
                    have M7 : Hid (Own w8 w2.heap.size g1 cap1 Z) := M8
                    have Q7 : Hid (Own w8 w.heap.size w.heap.size j q) := Q8
                    have B7 : Hid (Below w.heap.size w w8) := B8
                    have hs7 : wr.heap.size < w8.heap.size := O7.out.lt.2
                    clear hO M8 Q8 B8
                    go_wp2_with fail
                    have C7 := readdress_law F w2.heap.size w.heap.size g1 cap1 w8.heap.size w.heap.size j kk x L Z q aq qid hid flags qd (rs.map RecV.r) (w8.alloc (.cells #[.int .u16 qid, .int .u16 0, .int .u16 0, .slice (some ⟨w.heap.size, 0, none⟩) j j, .bool false, .bool false, .int .u16 0, .int .u8 0] 36)) (by show F.answers w8.tape; rw [B7.out.tape]; exact hF) (M7.out.alloc _) (Q7.out.alloc _) (by omega) (by omega) (by simp) (by rw [← HQL.out]; simp) b1.1 b1.2 (by rw [← HQL.out]; exact h1)
                      (by rw [← HQL.out, HZ.out, LXX.out]) hL3 (by rw [← HQL.out]; have := hL1.out; have := LLL.out; omega) (by omega) (recs_ok HR.out (fun i hi => HD.out i (by rw [HN.out]; exact hi))) (by rw [List.length_map]; exact HN.out.symm) hkkm h2
                    rw [← HQL.out, ← HV.out] at C7
                    refine C7.mono ?_
                    rintro e w9 ⟨rfl, hO, hG⟩
                    have G9 := grownBy_trans (World.grownBy_alloc w8 (.cells #[.int .u16 qid, .int .u16 0, .int .u16 0, .slice (some ⟨w.heap.size, 0, none⟩) j j, .bool false, .bool false, .int .u16 0, .int .u8 0] 36) (some g1)) hG
                    have M9 : Hid (Own w9 w2.heap.size g1 cap1 V) := hO
                    have O9 : Hid (Own w9 wr.heap.size wr.heap.size L V) := O7.out.kept G9 (by simp; omega)
                    have Q9 : Hid (Own w9 w.heap.size w.heap.size j q) := Q7.out.kept G9 (by simp; omega)
                    have B9 : Hid (Below w.heap.size w w9) := B7.out.grown G9 B7.out.size (fun k hk => by cases hk; omega)
                    clear hO hG G9 O7 M7 Q7 B7 C7
                    go_wp2
                    go_loopw [234] (fun i wv => ∃ y nq : Nat, y ≤ L ∧ i = .int .i64 y ∧ wv = w9.drewN nq) (fun i _ => L - (intOf i).toNat)
                    case atStart => exact ⟨0, 0, Nat.zero_le _, rfl, rfl⟩
                    case round =>
                      obtain ⟨y, nq, hy, rfl, rfl⟩ := hrel
                      by_cases hy2 : y < L
                      · have v1 := M9.out.cell y (by rw [VL.out]; exact hy2)
                        have v2 := O9.out.cell y (by rw [VL.out]; exact hy2)
                        obtain ⟨vv, hvv⟩ : ∃ vv, vv = V.getD y 0 := ⟨_, rfl⟩
                        rw [← hvv] at v1 v2
                        clear hvv
                        have hy3 : (y : Int) < (L : Int) := by omega
                        go_wp2
                        go_quiet (fail)
                        go_wp2
                        go_roundw
                        case rel => exact ⟨y + 1, _, by omega, by go_num, rfl⟩
                        case measure => simp [intOf]; omega
                      · go_wp2
                        go_loopw [249] (fun i wv => ∃ y nq : Nat, y ≤ j ∧ i = .int .i64 y ∧ wv = w9.drewN nq) (fun i _ => j - (intOf i).toNat)
                        case atStart => exact ⟨0, nq, Nat.zero_le _, rfl, rfl⟩
                        case round =>
                          obtain ⟨z, nz, hz, rfl, rfl⟩ := hrel
                          by_cases hz3 : z < j
                          · obtain ⟨qb, qo, hqa, hqc⟩ := HQ.out.2.2 (by rw [← HQL.out]; omega)
                            subst hqa
                            have v1 := Q9.out.cell z (by rw [← HQL.out]; exact hz3)
                            have v2 := cell_from B9.out (hqc z (by rw [← HQL.out]; exact hz3))
                            obtain ⟨vv, hvv⟩ : ∃ vv, vv = q.getD z 0 := ⟨_, rfl⟩
                            rw [← hvv] at v1 v2
                            clear hvv hqc
                            have hz4 : (z : Int) < (j : Int) := by omega
                            go_wp2
                            go_quiet (fail)
                            go_wp2
                            go_roundw
                            case rel => exact ⟨z + 1, _, by omega, by go_num, rfl⟩
                            case measure => simp [intOf]; omega
                          · go_wp2
                            go_ret
                            exact ⟨rfl, below_drewN B9.out _⟩
                  · have hc1 : ((c : Int) == 1) = false := by assumption
                    have hmiss : ¬ (D = 0 ∧ c = 1) := by rw [beq_eq_false_iff_ne] at hc1; omega
                    clear hc1
                    have O7 : Hid (Own w7 wr.heap.size wr.heap.size L (lay (put16 Z 0 qid) 12 (q.take (L - 12)))) := hO
                    have M7 : Hid (Own w7 w2.heap.size g1 cap1 Z) := M6.out.kept hG (by simp; omega)
                    have Q7 : Hid (Own w7 w.heap.size w.heap.size j q) := Q6.out.kept hG (by simp; omega)
                    have B7 : Hid (Below w.heap.size w w7) := B6.out.grown hG B6.out.size (fun k hk => by cases hk; omega)
                    have hs7 : wr.heap.size < w7.heap.size := O7.out.lt.2
                    clear hO hG O6 M6 Q6 B6 hs6
                    obtain ⟨V, hV⟩ : ∃ V, V = lay (put16 Z 0 qid) 12 (q.take (L - 12)) := ⟨_, rfl⟩
                    have HV : Hid (V = fin16 (lay (put16 Z 0 qid) 12 (q.take (L - 12))) (scan kk L (rs.map RecV.r) 0 (12 + j) none)) := by
                      show _ = _
                      rw [fin_miss TXX.out LLL.out hL1.out hmiss]
                      exact hV
                    have VL : Hid (V.length = L) := by show _ = _; rw [hV, lay_length _ _ _ (by rw [put16_length, ZL.out, List.length_take]; omega), put16_length, ZL.out]
                    rw [← hV] at O7
                    clear hV
                    have C7 := readdress_law F w2.heap.size w.heap.size g1 cap1 w7.heap.size w.heap.size j kk x L Z q aq qid hid flags qd (rs.map RecV.r) (w7.alloc (.cells #[.int .u16 qid, .int .u16 0, .int .u16 0, .slice (some ⟨w.heap.size, 0, none⟩) j j, .bool false, .bool false, .int .u16 0, .int .u8 0] 36)) (by show F.answers w7.tape; rw [B7.out.tape]; exact hF) (M7.out.alloc _) (Q7.out.alloc _) (by omega) (by omega) (by simp) (by rw [← HQL.out]; simp) b1.1 b1.2 (by rw [← HQL.out]; exact h1)
                      (by rw [← HQL.out, HZ.out, LXX.out]) hL3 (by rw [← HQL.out]; have := hL1.out; have := LLL.out; omega) (by omega) (recs_ok HR.out (fun i hi => HD.out i (by rw [HN.out]; exact hi))) (by rw [List.length_map]; exact HN.out.symm) hkkm h2
                    rw [← HQL.out, ← HV.out] at C7
                    refine C7.mono ?_
                    rintro e w9 ⟨rfl, hO, hG⟩
                    have G9 := grownBy_trans (World.grownBy_alloc w7 (.cells #[.int .u16 qid, .int .u16 0, .int .u16 0, .slice (some ⟨w.heap.size, 0, none⟩) j j, .bool false, .bool false, .int .u16 0, .int .u8 0] 36) (some g1)) hG
                    have M9 : Hid (Own w9 w2.heap.size g1 cap1 V) := hO
                    have O9 : Hid (Own w9 wr.heap.size wr.heap.size L V) := O7.out.kept G9 (by simp; omega)
                    have Q9 : Hid (Own w9 w.heap.size w.heap.size j q) := Q7.out.kept G9 (by simp; omega)
                    have B9 : Hid (Below w.heap.size w w9) := B7.out.grown G9 B7.out.size (fun k hk => by cases hk; omega)
                    clear hO hG G9 O7 M7 Q7 B7 C7
                    go_wp2
                    go_loopw [234] (fun i wv => ∃ y nq : Nat, y ≤ L ∧ i = .int .i64 y ∧ wv = w9.drewN nq) (fun i _ => L - (intOf i).toNat)
                    case atStart => exact ⟨0, 0, Nat.zero_le _, rfl, rfl⟩
                    case round =>
                      obtain ⟨y, nq, hy, rfl, rfl⟩ := hrel
                      by_cases hy2 : y < L
                      · have v1 := M9.out.cell y (by rw [VL.out]; exact hy2)
                        have v2 := O9.out.cell y (by rw [VL.out]; exact hy2)
                        obtain ⟨vv, hvv⟩ : ∃ vv, vv = V.getD y 0 := ⟨_, rfl⟩
                        rw [← hvv] at v1 v2
                        clear hvv
                        have hy3 : (y : Int) < (L : Int) := by omega
                        go_wp2
                        go_quiet (fail)
                        go_wp2
                        go_roundw
                        case rel => exact ⟨y + 1, _, by omega, by go_num, rfl⟩
                        case measure => simp [intOf]; omega
                      · go_wp2
                        go_loopw [249] (fun i wv => ∃ y nq : Nat, y ≤ j ∧ i = .int .i64 y ∧ wv = w9.drewN nq) (fun i _ => j - (intOf i).toNat)
                        case atStart => exact ⟨0, nq, Nat.zero_le _, rfl, rfl⟩
                        case round =>
                          obtain ⟨z, nz, hz, rfl, rfl⟩ := hrel
                          by_cases hz3 : z < j
                          · obtain ⟨qb, qo, hqa, hqc⟩ := HQ.out.2.2 (by rw [← HQL.out]; omega)
                            subst hqa
                            have v1 := Q9.out.cell z (by rw [← HQL.out]; exact hz3)
                            have v2 := cell_from B9.out (hqc z (by rw [← HQL.out]; exact hz3))
                            obtain ⟨vv, hvv⟩ : ∃ vv, vv = q.getD z 0 := ⟨_, rfl⟩
                            rw [← hvv] at v1 v2
                            clear hvv hqc
                            have hz4 : (z : Int) < (j : Int) := by omega
                            go_wp2
                            go_quiet (fail)
                            go_wp2
                            go_roundw
                            case rel => exact ⟨z + 1, _, by omega, by go_num, rfl⟩
                            case measure => simp [intOf]; omega
                          · go_wp2
                            go_ret
                            exact ⟨rfl, below_drewN B9.out _⟩
                  · have hmiss : ¬ (D = 0 ∧ c = 1) := fun h => absurd h.1 (by assumption)
                    have O7 : Hid (Own w7 wr.heap.size wr.heap.size L (lay (put16 Z 0 qid) 12 (q.take (L - 12)))) := hO
                    have M7 : Hid (Own w7 w2.heap.size g1 cap1 Z) := M6.out.kept hG (by simp; omega)
                    have Q7 : Hid (Own w7 w.heap.size w.heap.size j q) := Q6.out.kept hG (by simp; omega)
                    have B7 : Hid (Below w.heap.size w w7) := B6.out.grown hG B6.out.size (fun k hk => by cases hk; omega)
                    have hs7 : wr.heap.size < w7.heap.size := O7.out.lt.2
                    clear hO hG O6 M6 Q6 B6 hs6
                    obtain ⟨V, hV⟩ : ∃ V, V = lay (put16 Z 0 qid) 12 (q.take (L - 12)) := ⟨_, rfl⟩
                    have HV : Hid (V = fin16 (lay (put16 Z 0 qid) 12 (q.take (L - 12))) (scan kk L (rs.map RecV.r) 0 (12 + j) none)) := by
                      show _ = _
                      rw [fin_miss TXX.out LLL.out hL1.out hmiss]
                      exact hV
                    have VL : Hid (V.length = L) := by show _ = _; rw [hV, lay_length _ _ _ (by rw [put16_length, ZL.out, List.length_take]; omega), put16_length, ZL.out]
                    rw [← hV] at O7
                    clear hV
                    have C7 := readdress_law F w2.heap.size w.heap.size g1 cap1 w7.heap.size w.heap.size j kk x L Z q aq qid hid flags qd (rs.map RecV.r) (w7.alloc (.cells #[.int .u16 qid, .int .u16 0, .int .u16 0, .slice (some ⟨w.heap.size, 0, none⟩) j j, .bool false, .bool false, .int .u16 0, .int .u8 0] 36)) (by show F.answers w7.tape; rw [B7.out.tape]; exact hF) (M7.out.alloc _) (Q7.out.alloc _) (by omega) (by omega) (by simp) (by rw [← HQL.out]; simp) b1.1 b1.2 (by rw [← HQL.out]; exact h1)
                      (by rw [← HQL.out, HZ.out, LXX.out]) hL3 (by rw [← HQL.out]; have := hL1.out; have := LLL.out; omega) (by omega) (recs_ok HR.out (fun i hi => HD.out i (by rw [HN.out]; exact hi))) (by rw [List.length_map]; exact HN.out.symm) hkkm h2
                    rw [← HQL.out, ← HV.out] at C7
                    refine C7.mono ?_
                    rintro e w9 ⟨rfl, hO, hG⟩
                    have G9 := grownBy_trans (World.grownBy_alloc w7 (.cells #[.int .u16 qid, .int .u16 0, .int .u16 0, .slice (some ⟨w.heap.size, 0, none⟩) j j, .bool false, .bool false, .int .u16 0, .int .u8 0] 36) (some g1)) hG
                    have M9 : Hid (Own w9 w2.heap.size g1 cap1 V) := hO
                    have O9 : Hid (Own w9 wr.heap.size wr.heap.size L V) := O7.out.kept G9 (by simp; omega)
                    have Q9 : Hid (Own w9 w.heap.size w.heap.size j q) := Q7.out.kept G9 (by simp; omega)
                    have B9 : Hid (Below w.heap.size w w9) := B7.out.grown G9 B7.out.size (fun k hk => by cases hk; omega)
                    clear hO hG G9 O7 M7 Q7 B7 C7
                    go_wp2
                    go_loopw [234] (fun i wv => ∃ y nq : Nat, y ≤ L ∧ i = .int .i64 y ∧ wv = w9.drewN nq) (fun i _ => L - (intOf i).toNat)
                    case atStart => exact ⟨0, 0, Nat.zero_le _, rfl, rfl⟩
                    case round =>
                      obtain ⟨y, nq, hy, rfl, rfl⟩ := hrel
                      by_cases hy2 : y < L
                      · have v1 := M9.out.cell y (by rw [VL.out]; exact hy2)
                        have v2 := O9.out.cell y (by rw [VL.out]; exact hy2)
                        obtain ⟨vv, hvv⟩ : ∃ vv, vv = V.getD y 0 := ⟨_, rfl⟩
                        rw [← hvv] at v1 v2
                        clear hvv
                        have hy3 : (y : Int) < (L : Int) := by omega
                        go_wp2
                        go_quiet (fail)
                        go_wp2
                        go_roundw
                        case rel => exact ⟨y + 1, _, by omega, by go_num, rfl⟩
                        case measure => simp [intOf]; omega
                      · go_wp2
                        go_loopw [249] (fun i wv => ∃ y nq : Nat, y ≤ j ∧ i = .int .i64 y ∧ wv = w9.drewN nq) (fun i _ => j - (intOf i).toNat)
                        case atStart => exact ⟨0, nq, Nat.zero_le _, rfl, rfl⟩
                        case round =>
                          obtain ⟨z, nz, hz, rfl, rfl⟩ := hrel
                          by_cases hz3 : z < j
                          · obtain ⟨qb, qo, hqa, hqc⟩ := HQ.out.2.2 (by rw [← HQL.out]; omega)
                            subst hqa
                            have v1 := Q9.out.cell z (by rw [← HQL.out]; exact hz3)
                            have v2 := cell_from B9.out (hqc z (by rw [← HQL.out]; exact hz3))
                            obtain ⟨vv, hvv⟩ : ∃ vv, vv = q.getD z 0 := ⟨_, rfl⟩
                            rw [← hvv] at v1 v2
                            clear hvv hqc
                            have hz4 : (z : Int) < (j : Int) := by omega
                            go_wp2
                            go_quiet (fail)
                            go_wp2
                            go_roundw
                            case rel => exact ⟨z + 1, _, by omega, by go_num, rfl⟩
                            case measure => simp [intOf]; omega
                          · go_wp2
                            go_ret
                            exact ⟨rfl, below_drewN B9.out _⟩
                · have hbit' : (bits BinOp.and IntKind.u16 cut 1 == 1) = false := by simpa using hbit
                  have hL1 : Hid (ll + 0 = ll) := rfl
                  have hL2 : ll ≤ ll := Nat.le_refl _
                  have hL3 : 12 ≤ ll := hl12
                  obtain ⟨Z, hZ⟩ : ∃ Z, Z = l'.take ll := ⟨_, rfl⟩
                  have ZL : Hid (Z.length = ll) := by show _ = _; rw [hZ, List.length_take, LL.out]; omega
                  have HZ : Hid (Z = l'.take ll) := hZ
                  have MZ : Hid (Own wr w2.heap.size g1 cap1 Z) := by rw [hZ]; exact OX.out.take ll (by rw [LL.out]; exact hL2)
                  clear hZ OX hbit
                  go_wp2_with (at_make; refine wpList_make_full _ rfl _ _ 23 rfl wr.heap.size 5 i0 (.int .u8 0) 1 Ybaf.underlying23 hi hz0 hz1 _ _ _ _ ll rfl rfl (by omega) (by omega) (by rw [hz2]; omega) (by unfold maxLen; omega) (Nat.le_refl _) ?_)
                  intro w4 hown hgrow
                  have O4 : Hid (Own w4 wr.heap.size wr.heap.size ll (List.replicate ll 0)) := Own.mk hown (by simp) (by simp [toList_madeCells_one])
                  have M4 : Hid (Own w4 w2.heap.size g1 cap1 Z) := MZ.out.kept hgrow (by simp)
                  have Q4 : Hid (Own w4 w.heap.size w.heap.size j q) := QX.out.kept hgrow (by simp)
                  have B4 : Hid (Below w.heap.size w w4) := BX.out.grown hgrow BX.out.size (fun k hk => by cases hk)
                  have hs4 : wr.heap.size < w4.heap.size := O4.out.lt.2
                  clear hown hgrow MZ QX BX
                  go_wp2_with (refine wpList_copy_lay rfl (.tmp 197) (.tmp 198) rfl _ _ _ _ _ _ rfl rfl wr.heap.size wr.heap.size ll 0 (List.replicate ll 0) Z O4.out ?hdp000a ?hfit000a ZL.out ?hsp000a ?_)
                  case hfit000a => simp
                  case hsp000a => exact M4.out.src
                  intro w5 N5 hO hG
                  have O5 : Hid (Own w5 wr.heap.size wr.heap.size ll Z) := by rw [lay_full ll Z ZL.out.symm] at hO; exact hO
                  have M5 : Hid (Own w5 w2.heap.size g1 cap1 Z) := M4.out.kept hG (by simp; omega)
                  have Q5 : Hid (Own w5 w.heap.size w.heap.size j q) := Q4.out.kept hG (by simp; omega)
                  have B5 : Hid (Below w.heap.size w w5) := B4.out.grown hG B4.out.size (fun k hk => by cases hk; omega)
                  have hs5 : wr.heap.size < w5.heap.size := O5.out.lt.2
                  clear hO hG O4 M4 Q4 B4 hs4
                  go_wp2
                  refine wp_region_drew_tail 4 (by kernel_rfl) (by kernel_rfl) ?_
                  simp only [List.take_succ_cons, List.take_zero, List.drop_succ_cons, List.drop_zero]
                  iterate 4 (go_big_quiet_step (fail))
                  refine wpQuiet_nil ?_
                  intro wx hwx
                  obtain ⟨nq, rfl⟩ := hwx
                  go_wp2_with fail
                  refine (put16_any wr.heap.size wr.heap.size ll 0 _ _ Z qid _ (O5.out.drewN nq) (by omega) (by rw [ZL.out]; omega) b1.1 b1.2).mono ?_
                  rintro e w6 ⟨rfl, hO, hG⟩
                  have O6 : Hid (Own w6 wr.heap.size wr.heap.size ll (put16 Z 0 qid)) := hO
                  have G6 := grownBy_trans (grownBy_drewN w5 nq _) hG
                  have M6 : Hid (Own w6 w2.heap.size g1 cap1 Z) := M5.out.kept G6 (by simp; omega)
                  have Q6 : Hid (Own w6 w.heap.size w.heap.size j q) := Q5.out.kept G6 (by simp; omega)
                  have B6 : Hid (Below w.heap.size w w6) := B5.out.grown G6 B5.out.size (fun k hk => by cases hk; omega)
                  have hs6 : wr.heap.size < w6.heap.size := O6.out.lt.2
                  clear hO hG G6 O5 M5 Q5 B5 hs5 nq
                  have e12 : 12 + (ll - 12) ≤ (put16 Z 0 qid).length := by rw [put16_length, ZL.out]; omega
                  go_wp2_with (refine wpList_copy_lay rfl (.tmp 206) (.tmp 207) rfl _ _ _ _ _ _ rfl rfl wr.heap.size wr.heap.size ll 12 (put16 Z 0 qid) q O6.out (by intro _; rw [if_neg (by omega)]) e12 HQL.out.symm Q6.out.src ?_; intro w7 N7 hO hG; generalize (if ll = 12 then (some ⟨wr.heap.size, 0, none⟩ : Option Addr) else some ⟨wr.heap.size, 12, none⟩) = dp)
                  · have hc1 : ((c : Int) == 1) = true := by assumption
                    have hc2 : c = 1 := by simp only [beq_iff_eq] at hc1; omega
                    have hT := tally_at kk (rs.map RecV.r) 0 (12 + j) 0 (-1) ll (by have := LLL.out; omega) (Or.inl rfl) (by omega) (by rw [TXX.out]; simp only; omega)
                    rw [TXX.out] at hT
                    simp only at hT
                    obtain ⟨an, han⟩ : ∃ an : Nat, a = (an : Int) := ⟨a.toNat, by omega⟩
                    subst han
                    have HTX : Hid (tally kk (rs.map RecV.r) 0 (12 + j) 0 (-1) = (1, (an : Int))) := by rw [← hc2]; exact TXX.out
                    have han2 : an + 2 ≤ ll := by have := hL1.out; omega
                    have O7 : Hid (Own w7 wr.heap.size wr.heap.size ll (lay (put16 Z 0 qid) 12 (q.take (ll - 12)))) := hO
                    have M7 : Hid (Own w7 w2.heap.size g1 cap1 Z) := M6.out.kept hG (by simp; omega)
                    have Q7 : Hid (Own w7 w.heap.size w.heap.size j q) := Q6.out.kept hG (by simp; omega)
                    have B7 : Hid (Below w.heap.size w w7) := B6.out.grown hG B6.out.size (fun k hk => by cases hk; omega)
                    have hs7 : wr.heap.size < w7.heap.size := O7.out.lt.2
                    clear hO hG O6 M6 Q6 B6 hs6
                    obtain ⟨V, hV⟩ : ∃ V, V = put16 (lay (put16 Z 0 qid) 12 (q.take (ll - 12))) an 1232 := ⟨_, rfl⟩
                    have HV : Hid (V = fin16 (lay (put16 Z 0 qid) 12 (q.take (ll - 12))) (scan kk ll (rs.map RecV.r) 0 (12 + j) none)) := by
                      have e : ll = ll := by have := hL1.out; omega
                      rw [hV]
                      show _ = _
                      rw [fin_hit HTX.out (ll := ll) (by have := LLL.out; omega)]
                    have YL : Hid ((lay (put16 Z 0 qid) 12 (q.take (ll - 12))).length = ll) := by show _ = _; rw [lay_length _ _ _ (by rw [put16_length, ZL.out, List.length_take]; omega), put16_length, ZL.out]
                    have VL : Hid (V.length = ll) := by show _ = _; rw [hV, put16_length, YL.out]
                    have HVV : Hid (V = put16 (lay (put16 Z 0 qid) 12 (q.take (ll - 12))) an 1232) := hV
                    clear hV hT
                    have man : ¬ ll = an := by omega
                    refine wp_region_drew_tail 4 (by kernel_rfl) (by kernel_rfl) ?_
                    simp only [List.take_succ_cons, List.take_zero, List.drop_succ_cons, List.drop_zero]
                    iterate 4 (go_big_quiet_step (fail))
                    refine wpQuiet_nil ?_
                    intro wx hwx
                    obtain ⟨nq, rfl⟩ := hwx
                    go_wp2_with fail
                    refine (put16_any wr.heap.size wr.heap.size ll an _ _ _ 1232 _ (O7.out.drewN nq) (by omega) (by rw [YL.out]; omega) (by omega) (by omega)).mono ?_
                    rintro e w8 ⟨rfl, hO, hG⟩
                    have G8 := grownBy_trans (grownBy_drewN w7 nq _) hG
                    have M8 := M7.out.kept G8 (by simp; omega)
                    have Q8 := Q7.out.kept G8 (by simp; omega)
                    have B8 := B7.out.grown G8 B7.out.size (fun k hk => by cases hk; omega)
                    rw [← HVV.out] at hO
                    clear O7 M7 Q7 B7 hs7 HVV hG G8
                    have O7 : Hid (Own w8 wr.heap.size wr.heap.size ll V) := hO
                    have M7 : Hid (Own w8 w2.heap.size g1 cap1 Z) := M8
                    have Q7 : Hid (Own w8 w.heap.size w.heap.size j q) := Q8
                    have B7 : Hid (Below w.heap.size w w8) := B8
                    have hs7 : wr.heap.size < w8.heap.size := O7.out.lt.2
                    clear hO M8 Q8 B8
                    go_wp2_with fail
                    have C7 := readdress_law F w2.heap.size w.heap.size g1 cap1 w8.heap.size w.heap.size j kk x ll Z q aq qid hid flags qd (rs.map RecV.r) (w8.alloc (.cells #[.int .u16 qid, .int .u16 0, .int .u16 0, .slice (some ⟨w.heap.size, 0, none⟩) j j, .bool false, .bool false, .int .u16 0, .int .u8 0] 36)) (by show F.answers w8.tape; rw [B7.out.tape]; exact hF) (M7.out.alloc _) (Q7.out.alloc _) (by omega) (by omega) (by simp) (by rw [← HQL.out]; simp) b1.1 b1.2 (by rw [← HQL.out]; exact h1)
                      (by rw [← HQL.out, HZ.out, LXX.out]) hL3 (by rw [← HQL.out]; have := hL1.out; have := LLL.out; omega) (by omega) (recs_ok HR.out (fun i hi => HD.out i (by rw [HN.out]; exact hi))) (by rw [List.length_map]; exact HN.out.symm) hkkm h2
                    rw [← HQL.out, ← HV.out] at C7
                    refine C7.mono ?_
                    rintro e w9 ⟨rfl, hO, hG⟩
                    have G9 := grownBy_trans (World.grownBy_alloc w8 (.cells #[.int .u16 qid, .int .u16 0, .int .u16 0, .slice (some ⟨w.heap.size, 0, none⟩) j j, .bool false, .bool false, .int .u16 0, .int .u8 0] 36) (some g1)) hG
                    have M9 : Hid (Own w9 w2.heap.size g1 cap1 V) := hO
                    have O9 : Hid (Own w9 wr.heap.size wr.heap.size ll V) := O7.out.kept G9 (by simp; omega)
                    have Q9 : Hid (Own w9 w.heap.size w.heap.size j q) := Q7.out.kept G9 (by simp; omega)
                    have B9 : Hid (Below w.heap.size w w9) := B7.out.grown G9 B7.out.size (fun k hk => by cases hk; omega)
                    clear hO hG G9 O7 M7 Q7 B7 C7
                    go_wp2
                    go_loopw [234] (fun i wv => ∃ y nq : Nat, y ≤ ll ∧ i = .int .i64 y ∧ wv = w9.drewN nq) (fun i _ => ll - (intOf i).toNat)
                    case atStart => exact ⟨0, 0, Nat.zero_le _, rfl, rfl⟩
                    case round =>
                      obtain ⟨y, nq, hy, rfl, rfl⟩ := hrel
                      by_cases hy2 : y < ll
                      · have v1 := M9.out.cell y (by rw [VL.out]; exact hy2)
                        have v2 := O9.out.cell y (by rw [VL.out]; exact hy2)
                        obtain ⟨vv, hvv⟩ : ∃ vv, vv = V.getD y 0 := ⟨_, rfl⟩
                        rw [← hvv] at v1 v2
                        clear hvv
                        have hy3 : (y : Int) < (ll : Int) := by omega
                        go_wp2
                        go_quiet (fail)
                        go_wp2
                        go_roundw
                        case rel => exact ⟨y + 1, _, by omega, by go_num, rfl⟩
                        case measure => simp [intOf]; omega
                      · go_wp2
                        go_loopw [249] (fun i wv => ∃ y nq : Nat, y ≤ j ∧ i = .int .i64 y ∧ wv = w9.drewN nq) (fun i _ => j - (intOf i).toNat)
                        case atStart => exact ⟨0, nq, Nat.zero_le _, rfl, rfl⟩
                        case round =>
                          obtain ⟨z, nz, hz, rfl, rfl⟩ := hrel
                          by_cases hz3 : z < j
                          · obtain ⟨qb, qo, hqa, hqc⟩ := HQ.out.2.2 (by rw [← HQL.out]; omega)
                            subst hqa
                            have v1 := Q9.out.cell z (by rw [← HQL.out]; exact hz3)
                            have v2 := cell_from B9.out (hqc z (by rw [← HQL.out]; exact hz3))
                            obtain ⟨vv, hvv⟩ : ∃ vv, vv = q.getD z 0 := ⟨_, rfl⟩
                            rw [← hvv] at v1 v2
                            clear hvv hqc
                            have hz4 : (z : Int) < (j : Int) := by omega
                            go_wp2
                            go_quiet (fail)
                            go_wp2
                            go_roundw
                            case rel => exact ⟨z + 1, _, by omega, by go_num, rfl⟩
                            case measure => simp [intOf]; omega
                          · go_wp2
                            go_ret
                            exact ⟨rfl, below_drewN B9.out _⟩
                  · have hc1 : ((c : Int) == 1) = false := by assumption
                    have hmiss : ¬ ((0 : Nat) = 0 ∧ c = 1) := by rw [beq_eq_false_iff_ne] at hc1; omega
                    clear hc1
                    have O7 : Hid (Own w7 wr.heap.size wr.heap.size ll (lay (put16 Z 0 qid) 12 (q.take (ll - 12)))) := hO
                    have M7 : Hid (Own w7 w2.heap.size g1 cap1 Z) := M6.out.kept hG (by simp; omega)
                    have Q7 : Hid (Own w7 w.heap.size w.heap.size j q) := Q6.out.kept hG (by simp; omega)
                    have B7 : Hid (Below w.heap.size w w7) := B6.out.grown hG B6.out.size (fun k hk => by cases hk; omega)
                    have hs7 : wr.heap.size < w7.heap.size := O7.out.lt.2
                    clear hO hG O6 M6 Q6 B6 hs6
                    obtain ⟨V, hV⟩ : ∃ V, V = lay (put16 Z 0 qid) 12 (q.take (ll - 12)) := ⟨_, rfl⟩
                    have HV : Hid (V = fin16 (lay (put16 Z 0 qid) 12 (q.take (ll - 12))) (scan kk ll (rs.map RecV.r) 0 (12 + j) none)) := by
                      show _ = _
                      rw [fin_miss TXX.out LLL.out hL1.out hmiss]
                      exact hV
                    have VL : Hid (V.length = ll) := by show _ = _; rw [hV, lay_length _ _ _ (by rw [put16_length, ZL.out, List.length_take]; omega), put16_length, ZL.out]
                    rw [← hV] at O7
                    clear hV
                    have C7 := readdress_law F w2.heap.size w.heap.size g1 cap1 w7.heap.size w.heap.size j kk x ll Z q aq qid hid flags qd (rs.map RecV.r) (w7.alloc (.cells #[.int .u16 qid, .int .u16 0, .int .u16 0, .slice (some ⟨w.heap.size, 0, none⟩) j j, .bool false, .bool false, .int .u16 0, .int .u8 0] 36)) (by show F.answers w7.tape; rw [B7.out.tape]; exact hF) (M7.out.alloc _) (Q7.out.alloc _) (by omega) (by omega) (by simp) (by rw [← HQL.out]; simp) b1.1 b1.2 (by rw [← HQL.out]; exact h1)
                      (by rw [← HQL.out, HZ.out, LXX.out]) hL3 (by rw [← HQL.out]; have := hL1.out; have := LLL.out; omega) (by omega) (recs_ok HR.out (fun i hi => HD.out i (by rw [HN.out]; exact hi))) (by rw [List.length_map]; exact HN.out.symm) hkkm h2
                    rw [← HQL.out, ← HV.out] at C7
                    refine C7.mono ?_
                    rintro e w9 ⟨rfl, hO, hG⟩
                    have G9 := grownBy_trans (World.grownBy_alloc w7 (.cells #[.int .u16 qid, .int .u16 0, .int .u16 0, .slice (some ⟨w.heap.size, 0, none⟩) j j, .bool false, .bool false, .int .u16 0, .int .u8 0] 36) (some g1)) hG
                    have M9 : Hid (Own w9 w2.heap.size g1 cap1 V) := hO
                    have O9 : Hid (Own w9 wr.heap.size wr.heap.size ll V) := O7.out.kept G9 (by simp; omega)
                    have Q9 : Hid (Own w9 w.heap.size w.heap.size j q) := Q7.out.kept G9 (by simp; omega)
                    have B9 : Hid (Below w.heap.size w w9) := B7.out.grown G9 B7.out.size (fun k hk => by cases hk; omega)
                    clear hO hG G9 O7 M7 Q7 B7 C7
                    go_wp2
                    go_loopw [234] (fun i wv => ∃ y nq : Nat, y ≤ ll ∧ i = .int .i64 y ∧ wv = w9.drewN nq) (fun i _ => ll - (intOf i).toNat)
                    case atStart => exact ⟨0, 0, Nat.zero_le _, rfl, rfl⟩
                    case round =>
                      obtain ⟨y, nq, hy, rfl, rfl⟩ := hrel
                      by_cases hy2 : y < ll
                      · have v1 := M9.out.cell y (by rw [VL.out]; exact hy2)
                        have v2 := O9.out.cell y (by rw [VL.out]; exact hy2)
                        obtain ⟨vv, hvv⟩ : ∃ vv, vv = V.getD y 0 := ⟨_, rfl⟩
                        rw [← hvv] at v1 v2
                        clear hvv
                        have hy3 : (y : Int) < (ll : Int) := by omega
                        go_wp2
                        go_quiet (fail)
                        go_wp2
                        go_roundw
                        case rel => exact ⟨y + 1, _, by omega, by go_num, rfl⟩
                        case measure => simp [intOf]; omega
                      · go_wp2
                        go_loopw [249] (fun i wv => ∃ y nq : Nat, y ≤ j ∧ i = .int .i64 y ∧ wv = w9.drewN nq) (fun i _ => j - (intOf i).toNat)
                        case atStart => exact ⟨0, nq, Nat.zero_le _, rfl, rfl⟩
                        case round =>
                          obtain ⟨z, nz, hz, rfl, rfl⟩ := hrel
                          by_cases hz3 : z < j
                          · obtain ⟨qb, qo, hqa, hqc⟩ := HQ.out.2.2 (by rw [← HQL.out]; omega)
                            subst hqa
                            have v1 := Q9.out.cell z (by rw [← HQL.out]; exact hz3)
                            have v2 := cell_from B9.out (hqc z (by rw [← HQL.out]; exact hz3))
                            obtain ⟨vv, hvv⟩ : ∃ vv, vv = q.getD z 0 := ⟨_, rfl⟩
                            rw [← hvv] at v1 v2
                            clear hvv hqc
                            have hz4 : (z : Int) < (j : Int) := by omega
                            go_wp2
                            go_quiet (fail)
                            go_wp2
                            go_roundw
                            case rel => exact ⟨z + 1, _, by omega, by go_num, rfl⟩
                            case measure => simp [intOf]; omega
                          · go_wp2
                            go_ret
                            exact ⟨rfl, below_drewN B9.out _⟩
  · have hbig : (300 : Int) < (ql : Int) ∨ (ql : Int) ≤ 300 ∧ (300 : Int) < (n : Int) := by omega
    rcases hbig with hb | ⟨hb, hb'⟩
    · go_enter Ybaf.func3, Ybaf.ntmps3
      go_wp2
      go_ret
      exact ⟨rfl, Below.refl _ _⟩
    · go_enter Ybaf.func3, Ybaf.ntmps3
      go_wp2
      go_ret
      exact ⟨rfl, Below.refl _ _⟩
end Go.Proofs.YbulkadjmFmt
