import Derived.Test.YbulkadpkLwQ
import Derived.Test.YbulkadpkRdq
import Derived.Laws.Cover2
namespace Go.Proofs.Ybulkadpk
open Go.RowKit Go.QuietTail Go.CountedRange Go.QuietRound
set_option linter.unusedVariables false
set_option linter.unusedSimpArgs false
attribute [local go_sem] Oper.semAt_some

set_option maxHeartbeats 4000000 in
set_option maxRecDepth 100000 in
theorem served_fits (G : List (List Zf)) (a : Option Addr) (c : Nat) (mask stop : Int) (w : World) (hI : InGrps 0 w.heap.size w (.slice a G.length c) G) (hF : Fits G) (hm0 : 0 ≤ mask) (hm1 : mask ≤ 255) (hs0 : 0 ≤ stop) (hs1 : stop ≤ 65535) :
    Calls Yba.prog 4 #[.slice a G.length c, .int .u8 mask, .int .u16 stop] w fun e w' => e = .returned (.bool true) ∧ Below w.heap.size w w' := by
  obtain ⟨N, hN⟩ : ∃ N, N = G.length := ⟨_, rfl⟩
  have HN : Hid (G.length = N) := hN.symm
  have HI : Hid (InGrps 0 w.heap.size w (.slice a N c) G) := by rw [hN]; exact hI
  have hn256 : N ≤ 256 := by rw [hN]; exact hF.1
  have HF : Hid (Fits G) := hF
  rw [← hN]
  clear hN hI hF
  refine calls_of_wp_marks Yba.func4 rfl ?_
  simp only [Yba.ntmps4, List.size_toArray, List.length_cons, List.length_nil, Nat.reduceAdd, Nat.reduceSub, Array.replicate_succ, Array.replicate_zero, List.push_toArray, List.append_toArray, List.nil_append, List.cons_append]
  go_wp2
  obtain ⟨b3, hb3⟩ : ∃ b, b = w.heap.size := ⟨_, rfl⟩
  obtain ⟨W0, hW0⟩ : ∃ W0, W0 = (((w.alloc (.cells #[.slice a N c] 38)).alloc (.cells #[.int .u8 mask] 5)).alloc (.cells #[.bool false] 4)).alloc (.cells #[.int .i64 0] 3) := ⟨_, rfl⟩
  have HB0 : Hid (Bx w w.heap.size (w.heap.size + 1) (w.heap.size + 1 + 1) (w.heap.size + 1 + 1 + 1) (.slice a N c) mask 0 W0) := by
    have k1 := Blk.new w 38 [.slice a N c]
    have k2 := Blk.new (w.alloc (.cells #[.slice a N c] 38)) 5 [.int .u8 mask]
    have k3 := Blk.new ((w.alloc (.cells #[.slice a N c] 38)).alloc (.cells #[.int .u8 mask] 5)) 4 [.bool false]
    have k4 := Blk.new (((w.alloc (.cells #[.slice a N c] 38)).alloc (.cells #[.int .u8 mask] 5)).alloc (.cells #[.bool false] 4)) 3 [.int .i64 0]
    simp only [World.size_alloc] at k2 k3 k4
    rw [hW0]
    exact ⟨((k1.alloc _).alloc _).alloc _, (k2.alloc _).alloc _, k3.alloc _, k4, (((((Below.refl _ w).alloc (Nat.le_refl _) _).alloc (by simp) _).alloc (by simp; omega) _).alloc (by simp; omega) _), Nat.le_refl _, by omega, by omega, by omega⟩
  rw [← hW0]
  clear hW0 hb3 b3
  generalize w.heap.size + 1 + 1 + 1 = b7 at *
  generalize w.heap.size + 1 + 1 = b6 at *
  generalize w.heap.size + 1 = b4 at *
  have HBi : Hid (∀ W, Below w.heap.size w W → InGrps 0 w.heap.size W (.slice a N c) G) := fun W h => HI.out.kept (Keep.of_below h (Nat.le_refl _)) (Nat.le_refl _) (Nat.le_refl _)
  clear HI
  have z0 : smps (G.take 0).flatten = 0 := by simp [smps]
  have z1 : (G.take 0).flatten.length = 0 := by simp
  have HS1 : Hid (Bx w w.heap.size b4 b6 b7 (.slice a N c) mask (G.take 0).flatten.length W0) := by rw [z1]; exact HB0.out
  go_loopw [8, 44] (fun u t wr => ∃ j : Nat, u = .int .i64 (smps (G.take j).flatten) ∧ t = .int .i64 j ∧ j ≤ N ∧ Hid (Bx w w.heap.size b4 b6 b7 (.slice a N c) mask (G.take j).flatten.length wr)) (fun u t wr => (N - intOf t).toNat)
  case atStart => exact ⟨0, by rw [z0]; rfl, rfl, Nat.zero_le _, HS1⟩
  case round =>
    obtain ⟨j, rfl, rfl, hjn, HH⟩ := hrel
    clear HS1 HB0 z0 z1
    by_cases hlt : j < N
    · have hlt' : (j : Int) < (N : Int) := by omega
      obtain ⟨g, hg⟩ : ∃ g, G[j]? = some g := ⟨_, List.getElem?_eq_getElem (by have := HN.out; omega)⟩
      have HG : Hid (G[j]? = some g) := hg
      obtain ⟨b, o, e0, _, hblt, hget⟩ := SubL.get (HBi.out wr HH.out.b) (by have := HN.out; omega)
      subst e0
      obtain ⟨x, hfam, hcell⟩ := hget j g hg
      obtain ⟨fp, fc, rfl⟩ := SubL.form hfam
      have d0 : wr.cell? ⟨b, o + j, none⟩ = some (.slice fp g.length fc) := by
        have := hcell 0 _ rfl
        rw [Nat.mul_one, Nat.add_zero] at this
        exact this
      have HTS : Hid ((G.take (j + 1)).flatten.length = (G.take j).flatten.length + g.length ∧ (G.take (j + 1)).flatten.length ≤ 1024) := ⟨flat_take_succ hg, Nat.le_trans (flat_take_le G (j + 1)) HF.out.2.1⟩
      have HFS : Hid ((G.take (j + 1)).flatten = (G.take j).flatten ++ g) := by show _ = _; rw [List.take_add_one, hg]; simp
      have HFP : Hid (∀ f, smps ((G.take j).flatten ++ g.take f) ≤ 4096) := fun f => Nat.le_trans (smps_le (flat_pre hg f)) HF.out.2.2.2
      have HFZ : Hid (∀ z ∈ g, z.M.length ≤ 1024) := fun z hz => HF.out.2.2.1 z (List.mem_flatten.2 ⟨g, List.mem_of_getElem? hg, hz⟩)
      have HFM : Hid (InFams 0 w.heap.size w (.slice fp g.length fc) g) := by
        have h1 := SubL.get (HBi.out w (Below.refl _ _)) (by have := HN.out; omega)
        obtain ⟨b', o', e1, _, _, hget'⟩ := h1
        cases e1
        obtain ⟨x', hfam', hcell'⟩ := hget' j g hg
        have h2 := hcell' 0 _ rfl
        have h3 : w.cell? ⟨b, o + j * 1 + 0, none⟩ = some (.slice fp g.length fc) := by
          rw [← HH.out.b.cell (p := ⟨b, o + j * 1 + 0, none⟩) hblt]
          exact hcell 0 _ rfl
        rw [h3] at h2
        cases h2
        exact hfam'
      have c7 : wr.cell? ⟨b7, 0, none⟩ = some (.int .i64 (G.take j).flatten.length) := HH.out.t.cell 0
      have f7 : wr.frozen? ⟨b7, 0, none⟩ = false := HH.out.t.frozen 0
      obtain ⟨K, hK⟩ : ∃ K, K = g.length := ⟨_, rfl⟩
      have HK : Hid (g.length = K) := hK.symm
      rw [← hK] at d0 HTS HFM
      obtain ⟨T, hT⟩ : ∃ T, T = (G.take j).flatten.length := ⟨_, rfl⟩
      rw [← hT] at HTS c7 HH
      obtain ⟨F0, hF0⟩ : ∃ F0, F0 = (G.take j).flatten := ⟨_, rfl⟩
      rw [← hF0] at HFP HFS ⊢
      have hTK : T + K ≤ 1024 := by have := HTS.out; omega
      clear hK hT hF0 hg hget hcell hfam
      have HS2 : Hid (Bx w w.heap.size b4 b6 b7 (.slice (some ⟨b, o, none⟩) N c) mask (T + K) (wr.setCell ⟨b7, 0, none⟩ (.int .i64 ((T + K : Nat) : Int)))) := HH.out.set (T + K)
      have hTT : (T : Int) + (K : Int) = ((T + K : Nat) : Int) := by simp
      rw [← hTT] at HS2
      clear hTT
      go_wp2
      obtain ⟨W2, hW2⟩ : ∃ W2, W2 = wr.setCell ⟨b7, 0, none⟩ (.int .i64 ((T : Int) + (K : Int))) := ⟨_, rfl⟩
      rw [← hW2] at HS2 ⊢
      clear hW2 HH d0 c7 f7
      have HSS : Hid (smps (F0 ++ g.take 0) = smps F0) := by show _ = _; simp
      go_loopw [8, 59] (fun u t wq => ∃ f : Nat, u = .int .i64 (smps (F0 ++ g.take f)) ∧ t = .int .i64 f ∧ f ≤ K ∧ Hid (Bx w w.heap.size b4 b6 b7 (.slice (some ⟨b, o, none⟩) N c) mask (T + K) wq)) (fun u t wq => (K - intOf t).toNat)
      case atStart => exact ⟨0, by rw [HSS.out], rfl, Nat.zero_le _, HS2⟩
      case round =>
        obtain ⟨f, rfl, rfl, hfk, HH⟩ := hrel
        clear HS2 HSS
        by_cases hlt2 : f < K
        · have hlt2' : (f : Int) < (K : Int) := by omega
          obtain ⟨z, hzz⟩ : ∃ z, g[f]? = some z := ⟨_, List.getElem?_eq_getElem (by have := HK.out; omega)⟩
          have HFMr : InFams 0 w.heap.size wr (.slice fp K fc) g := HFM.out.kept (Keep.of_below HH.out.b (Nat.le_refl _)) (Nat.le_refl _) (Nat.le_refl _)
          obtain ⟨fb, fo, e0, _, hfblt, hget⟩ := SubL.get HFMr (by have := HK.out; omega)
          subst e0
          obtain ⟨mv, ⟨hmet, hk0, hk1⟩, hcell⟩ := hget f z hzz
          obtain ⟨mp, mc, rfl⟩ := SubL.form hmet
          have d0 : wr.cell? ⟨fb, fo + f * 3, none⟩ = _ := hcell 0 _ rfl
          have d1 : wr.cell? ⟨fb, fo + f * 3 + 1, none⟩ = _ := hcell 1 _ rfl
          have d2 : wr.cell? ⟨fb, fo + f * 3 + 2, none⟩ = _ := hcell 2 _ rfl
          have hzM := HFZ.out z (List.mem_of_getElem? hzz)
          have HME : Hid (InMets 0 w.heap.size wr (.slice mp z.M.length mc) z.M) := hmet
          have HSZ : Hid (smps (F0 ++ g.take (f + 1)) = smps (F0 ++ g.take f) + smp z.M ∧ smps (F0 ++ g.take (f + 1)) ≤ 4096) := by
            refine ⟨?_, HFP.out (f + 1)⟩
            rw [List.take_add_one, hzz]
            simp only [Option.toList_some]
            rw [← List.append_assoc, smps_snoc]
          obtain ⟨Q, hQ⟩ : ∃ Q, Q = z.M.length := ⟨_, rfl⟩
          have HQ : Hid (z.M.length = Q) := hQ.symm
          rw [← hQ] at d2 hzM HME
          obtain ⟨S0, hS0⟩ : ∃ S0, S0 = smps (F0 ++ g.take f) := ⟨_, rfl⟩
          rw [← hS0] at HSZ ⊢
          clear hQ hS0 hget hcell hmet HFMr hzz
          go_wp2
          obtain ⟨W3, hW3⟩ : ∃ W3, W3 = wr.alloc (.cells #[.int .u8 z.k, .bool z.c, .slice mp Q mc] 43) := ⟨_, rfl⟩
          have HW3 : Hid (Bx w w.heap.size b4 b6 b7 (.slice (some ⟨b, o, none⟩) N c) mask (T + K) W3) := by show Bx _ _ _ _ _ _ _ _ _; rw [hW3]; exact HH.out.on ((Below.refl _ wr).alloc (Nat.le_refl _) _)
          have HM3 : Hid (∀ W, Below w.heap.size w W → InMets 0 w.heap.size W (.slice mp Q mc) z.M) := fun W hb => by
            refine HME.out.kept (fun k _ hk => ?_) (Nat.le_refl _) (Nat.le_refl _)
            rw [hb.block k hk, HH.out.b.block k hk]
          rw [← hW3]
          clear hW3 HH HME d0 d1 d2
          have HS30 : Hid (S0 + smp (z.M.take 0) = S0) := by show _ = _; simp [smp]
          go_loopw [8, 70] (fun u t wq => ∃ i : Nat, u = .int .i64 ((S0 + smp (z.M.take i) : Nat) : Int) ∧ t = .int .i64 i ∧ i ≤ Q ∧ Hid (Bx w w.heap.size b4 b6 b7 (.slice (some ⟨b, o, none⟩) N c) mask (T + K) wq)) (fun u t wq => (Q - intOf t).toNat)
          case atStart => exact ⟨0, by rw [HS30.out], rfl, Nat.zero_le _, HW3⟩
          case round =>
            obtain ⟨i, rfl, rfl, hiq, HH⟩ := hrel
            clear HW3 HS30
            by_cases hlt3 : i < Q
            · have hlt3' : (i : Int) < (Q : Int) := by omega
              obtain ⟨ms, hms⟩ : ∃ ms, z.M[i]? = some ms := ⟨_, List.getElem?_eq_getElem (by have := HQ.out; omega)⟩
              obtain ⟨mb, mo, e0, _, hmblt, hget⟩ := SubL.get (HM3.out wr HH.out.b) (by have := HQ.out; omega)
              subst e0
              obtain ⟨x, hbs, hcell⟩ := hget i ms hms
              obtain ⟨sp, sc, rfl⟩ := SubL.form hbs
              have d0 : wr.cell? ⟨mb, mo + i, none⟩ = some (.slice sp ms.length sc) := by
                have := hcell 0 _ rfl
                rw [Nat.mul_one, Nat.add_zero] at this
                exact this
              have HS3 : Hid (smp (z.M.take (i + 1)) = smp (z.M.take i) + (ms.length + 1) ∧ S0 + smp (z.M.take (i + 1)) ≤ 4096) := by
                refine ⟨by rw [List.take_add_one, hms]; exact smp_snoc _ _, ?_⟩
                have h1 := smp_take z.M (i + 1)
                have h2 := HSZ.out
                omega
              obtain ⟨L, hL⟩ : ∃ L, L = ms.length := ⟨_, rfl⟩
              rw [← hL] at d0 HS3
              obtain ⟨R, hR⟩ : ∃ R, R = S0 + smp (z.M.take i) := ⟨_, rfl⟩
              have HR : Hid (R = S0 + smp (z.M.take i)) := hR
              rw [← hR]
              have hb1 : R + (L + 1) ≤ 4096 := by have := HS3.out; omega
              clear hL hR hget hcell hbs hms
              go_wp2
              refine ⟨⟨i + 1, ?_, rfl, by omega, HH⟩, by simp [intOf]; omega⟩
              have h1 := HS3.out.1
              have h2 := HR.out
              congr 1
              omega
            · have hlt3' : ¬ (i : Int) < (Q : Int) := by omega
              obtain rfl : Q = i := by omega
              have HE : Hid (S0 + smp (z.M.take Q) = smps (F0 ++ g.take (f + 1))) := by show _ = _; rw [List.take_of_length_le (by have := HQ.out; omega), HSZ.out.1]
              rw [HE.out]
              go_wp2
              refine ⟨⟨f + 1, rfl, rfl, by omega, HH⟩, by simp [intOf]; omega⟩
        · have hlt2' : ¬ (f : Int) < (K : Int) := by omega
          obtain rfl : K = f := by omega
          have HE : Hid (smps (F0 ++ g.take K) = smps (G.take (j + 1)).flatten) := by show _ = _; rw [List.take_of_length_le (by have := HK.out; omega), HFS.out]
          have HE2 : Hid (Bx w w.heap.size b4 b6 b7 (.slice (some ⟨b, o, none⟩) N c) mask (G.take (j + 1)).flatten.length wr) := by show Bx _ _ _ _ _ _ _ _ _; rw [HTS.out.1]; exact HH.out
          rw [HE.out]
          clear HH
          go_wp2
          refine ⟨⟨j + 1, rfl, rfl, by omega, HE2⟩, by simp [intOf]; omega⟩
    · have hlt' : ¬ (j : Int) < (N : Int) := by omega
      obtain rfl : N = j := by omega
      obtain ⟨tot, htot⟩ : ∃ tot, tot = G.flatten.length := ⟨_, rfl⟩
      have HTO : Hid (tot = G.flatten.length) := htot
      have htl : tot ≤ 1024 := by rw [htot]; exact HF.out.2.1
      have HB1 : Hid (Bx w w.heap.size b4 b6 b7 (.slice a N c) mask tot wr) := by
        have h1 := HH.out
        rw [List.take_of_length_le (by have := HN.out; omega), ← htot] at h1
        exact h1
      clear HH htot
      have hmm := fun t w => @run_makeMap Yba.prog t w
      obtain ⟨mb, hmb⟩ : ∃ mb, mb = wr.heap.size := ⟨_, rfl⟩
      have hb7 : b7 < mb := by rw [hmb]; exact HB1.out.t.lt
      obtain ⟨W4, hW4⟩ : ∃ W4, W4 = wr.alloc (.map #[] 0) := ⟨_, rfl⟩
      have HM4 : Hid (MapPart W4 mb mask 0 ∧ Bx w w.heap.size b4 b6 b7 (.slice a N c) mask tot W4) := by
        rw [hW4, hmb]
        exact ⟨MapPart.new wr mask, HB1.out.on ((Below.refl _ wr).alloc (Nat.le_refl _) _)⟩
      go_wp2
      rw [← hW4, ← hmb]
      clear hW4 hmb HB1 hmm
      go_loopw [16] (fun u wq => ∃ i : Nat, u = .int .u8 i ∧ i ≤ 3 ∧ Hid (MapPart wq mb mask i ∧ Bx w w.heap.size b4 b6 b7 (.slice a N c) mask tot wq)) (fun u wq => (3 - intOf u).toNat)
      case atStart => exact ⟨0, rfl, Nat.zero_le _, HM4⟩
      case round =>
        obtain ⟨i, rfl, hi3, HH⟩ := hrel
        clear HM4
        by_cases hlt4 : i < 3
        · have hlt4' : (i : Int) < 3 := by omega
          have c4 : wr.cell? ⟨b4, 0, none⟩ = some (.int .u8 mask) := HH.out.2.m.cell 0
          cases hbt : (bits BinOp.and .u8 (mask / 2 ^ i) 1 == 1) with
          | false =>
            have HE : Hid (MapPart wr mb mask (i + 1) ∧ Bx w w.heap.size b4 b6 b7 (.slice a N c) mask tot wr) := ⟨HH.out.1.skip hbt, HH.out.2⟩
            clear HH
            go_wp2
            refine ⟨⟨i + 1, rfl, by omega, HE⟩, by simp [intOf]; omega⟩
          | true =>
            obtain ⟨n4, D4, ho4, hn4, hD4⟩ := HH.out.1
            have HO4 : Hid (wr.ownsMap Yba.prog 9 (plainElem Yba.prog 4) mb n4 D4) := ho4
            have HD4 : Hid (∀ k : Int, (D4.put (.string (nmB i).data.toList) (.lit (.bool true))).atKey (.string (nmB k).data.toList) (.lit (.bool false)) = .lit (.bool (decide ((k % 3).toNat < i + 1) && bitOf mask k))) := map_put hlt4 (by obtain ⟨es, cl, _, _, _, e⟩ := ho4; exact ⟨_, e⟩) hbt hD4
            have HKY : Hid (keyOf Yba.prog 9 (.string (nmB i)) = some (.string (nmB i).data.toList)) := WideMaps.keyOf_string_mk Yba.underlying9 (s := nmB i) (by rw [nmB_size]; decide)
            have HBB : Hid (Bx w w.heap.size b4 b6 b7 (.slice a N c) mask tot wr) := HH.out.2
            clear ho4 hD4 HH
            go_wp2_with (first | (go_at_call 9; refine (name_at i (by omega) (by omega) _).mono ?_; rintro e w1 ⟨rfl, rfl⟩) | (refine wpList_mapUpdate_own _ rfl (.tmp 99) (.tmp 101) (.const (.bool true)) 44 rfl 9 4 (Maps.string_keyed Yba.underlying9) Yba.underlying44 _ mb n4 D4 rfl HO4.out (by unfold maxLen; omega) (.string (nmB i)) (.bool true) (.string (nmB i).data.toList) rfl rfl HKY.out (.lit (.bool true)) [] (plainElem_bool Yba.underlying4 true) ?_; intro w5 ho5 hg5; have HE : Hid (MapPart w5 mb mask (i + 1) ∧ Bx w w.heap.size b4 b6 b7 (.slice a N c) mask tot w5) := ⟨⟨n4 + 1, _, ho5, by omega, HD4.out⟩, HBB.out.kept hg5 (fun k e => by cases e; exact hb7)⟩; clear ho5 hg5))
            refine ⟨⟨i + 1, rfl, by omega, HE⟩, by simp [intOf]; omega⟩
        · have hlt4' : ¬ (i : Int) < 3 := by omega
          obtain rfl : i = 3 := by omega
          have HSM : Hid (SplitMap wr mb mask ∧ Bx w w.heap.size b4 b6 b7 (.slice a N c) mask tot wr) := ⟨HH.out.1.done, HH.out.2⟩
          clear HH
          have c3 : wr.cell? ⟨w.heap.size, 0, none⟩ = some (.slice a N c) := HSM.out.2.g.cell 0
          have c7 : wr.cell? ⟨b7, 0, none⟩ = some (.int .i64 tot) := HSM.out.2.t.cell 0
          have l3 : w.heap.size < wr.heap.size := HSM.out.2.g.lt
          have l7 : b7 < wr.heap.size := HSM.out.2.t.lt
          have lm : mb < wr.heap.size := HSM.out.1.lt
          obtain ⟨i81, j81, z81, y81, x81⟩ := info_parts info81
          obtain ⟨i3, j3, z3, y3, x3⟩ := info_parts info3
          go_wp2_with (at_make; refine unhid ?_)
          obtain ⟨sB, hsB⟩ : ∃ sB, sB = wr.heap.size := ⟨_, rfl⟩
          obtain ⟨W5, hW5⟩ : ∃ W5, W5 = wr.alloc (.cells ([.int .i64 0, .int .i32 0, .int .u32 0, .int .u32 0, .int .u32 0, .int .i32 0, .int .i32 0, .map none, .slice none 0 0, .map none, .map none, .map none, .int .u64 0, .map (some mb), .int .i64 0] : List Value).toArray 68) := ⟨_, rfl⟩
          have b5 : Below wr.heap.size wr W5 := by rw [hW5]; exact (Below.refl _ wr).alloc (Nat.le_refl _) _
          have hst5 : Blk W5 sB 68 [.int .i64 0, .int .i32 0, .int .u32 0, .int .u32 0, .int .u32 0, .int .i32 0, .int .i32 0, .map none, .slice none 0 0, .map none, .map none, .map none, .int .u64 0, .map (some mb), .int .i64 0] := by rw [hW5, hsB]; exact Blk.new wr 68 _
          have HB5 : Hid (Bx w w.heap.size b4 b6 b7 (.slice a N c) mask tot W5 ∧ SplitMap W5 mb mask ∧ Blk W5 sB 68 [.int .i64 0, .int .i32 0, .int .u32 0, .int .u32 0, .int .u32 0, .int .i32 0, .int .i32 0, .map none, .slice none 0 0, .map none, .map none, .map none, .int .u64 0, .map (some mb), .int .i64 0]) := ⟨HSM.out.2.on b5, HSM.out.1.later b5 HSM.out.1.lt, hst5⟩
          have hms : mb < sB := by rw [hsB]; exact lm
          have l5 : W5.heap.size = sB + 1 := by rw [hW5, hsB]; simp
          rw [← hW5, ← hsB]
          clear hW5 hsB b5 hst5 c3 c7 HSM l3 l7 lm
          show wpList _ _ _ _ _ _
          refine wpList_make_own _ rfl (.const (.int .i64 0)) (.tmp 106) 69 rfl 0 81 i81 _ 2 Yba.underlying69 j81 z81 y81 .i64 .i64 (N : Int) N rfl rfl rfl (by rw [x81]; omega) (by unfold maxLen; omega) (Nat.zero_le _) ?_
          intro w6 hO6 hG6
          have b6w := below_of_none hG6
          obtain ⟨rp, hrp⟩ : ∃ rp, rp = W5.heap.size := ⟨_, rfl⟩
          rw [← hrp] at hO6 ⊢
          have HB6 : Hid (Bx w w.heap.size b4 b6 b7 (.slice a N c) mask tot w6 ∧ SplitMap w6 mb mask ∧ Blk w6 sB 68 [.int .i64 0, .int .i32 0, .int .u32 0, .int .u32 0, .int .u32 0, .int .i32 0, .int .i32 0, .map none, .slice none 0 0, .map none, .map none, .map none, .int .u64 0, .map (some mb), .int .i64 0]) := ⟨HB5.out.1.on b6w, HB5.out.2.1.later b6w HB5.out.2.1.lt, HB5.out.2.2.on b6w⟩
          have HO6 : Hid (w6.ownsRow 0 81 2 (.slice (some ⟨rp, 0, none⟩) 0 N) 0 []) := hO6
          have hsr : sB < rp := by omega
          have c7 : w6.cell? ⟨b7, 0, none⟩ = some (.int .i64 tot) := HB6.out.1.t.cell 0
          clear hO6 hG6 b6w HB5 l5 hrp
          go_wp2_with (at_make; refine unhid ?_)
          show wpList _ _ _ _ _ _
          obtain ⟨rg, hrg⟩ : ∃ rg, rg = w6.heap.size := ⟨_, rfl⟩
          have hpg : rp < rg := by rw [hrg]; exact (HO6.out.lt rp rfl).2
          refine wpList_make_own _ rfl (.const (.int .i64 0)) (.tmp 108) 70 rfl 0 3 i3 _ 1 Yba.underlying70 j3 z3 y3 .i64 .i64 (tot : Int) tot rfl rfl rfl (by rw [x3]; omega) (by unfold maxLen; omega) (Nat.zero_le _) ?_
          intro w7 hO7 hG7
          have b7w := below_of_none hG7
          rw [← hrg] at hO7 ⊢
          have HB7 : Hid (Bx w w.heap.size b4 b6 b7 (.slice a N c) mask tot w7 ∧ SplitMap w7 mb mask ∧ Blk w7 sB 68 [.int .i64 0, .int .i32 0, .int .u32 0, .int .u32 0, .int .u32 0, .int .i32 0, .int .i32 0, .map none, .slice none 0 0, .map none, .map none, .map none, .int .u64 0, .map (some mb), .int .i64 0] ∧ w7.ownsRow 0 81 2 (.slice (some ⟨rp, 0, none⟩) 0 N) 0 [] ∧ w7.ownsRow 0 3 1 (.slice (some ⟨rg, 0, none⟩) 0 tot) 0 []) := ⟨HB6.out.1.on b7w, HB6.out.2.1.later b7w HB6.out.2.1.lt, HB6.out.2.2.on b7w, own_block HO6.out (b7w.block rp (HO6.out.lt rp rfl).2), hO7⟩
          have hgl7 : rg < w7.heap.size := (hO7.lt rg rfl).2
          have c7 : w7.cell? ⟨b7, 0, none⟩ = some (.int .i64 tot) := HB7.out.1.t.cell 0
          have l77 : b7 < w7.heap.size := HB7.out.1.t.lt
          clear hO7 hG7 b7w HB6 HO6 hrg
          go_wp2_with (at_make; refine unhid ?_)
          show wpList _ _ _ _ _ _
          obtain ⟨bg, hbg⟩ : ∃ bg, bg = w7.heap.size := ⟨_, rfl⟩
          obtain ⟨W8, hW8⟩ : ∃ W8, W8 = w7.alloc (.cells #[.slice (some ⟨rg, 0, none⟩) 0 tot] 70) := ⟨_, rfl⟩
          have b8 : Below w7.heap.size w7 W8 := by rw [hW8]; exact (Below.refl _ w7).alloc (Nat.le_refl _) _
          have HB8 : Hid (Bx w w.heap.size b4 b6 b7 (.slice a N c) mask tot W8 ∧ SplitMap W8 mb mask ∧ Blk W8 sB 68 [.int .i64 0, .int .i32 0, .int .u32 0, .int .u32 0, .int .u32 0, .int .i32 0, .int .i32 0, .map none, .slice none 0 0, .map none, .map none, .map none, .int .u64 0, .map (some mb), .int .i64 0] ∧ W8.ownsRow 0 81 2 (.slice (some ⟨rp, 0, none⟩) 0 N) 0 [] ∧ W8.ownsRow 0 3 1 (.slice (some ⟨rg, 0, none⟩) 0 tot) 0 [] ∧ Blk W8 bg 70 [.slice (some ⟨rg, 0, none⟩) 0 tot]) := ⟨HB7.out.1.on b8, HB7.out.2.1.later b8 HB7.out.2.1.lt, HB7.out.2.2.1.on b8, own_block HB7.out.2.2.2.1 (b8.block rp (HB7.out.2.2.2.1.lt rp rfl).2), own_block HB7.out.2.2.2.2 (b8.block rg hgl7), by rw [hW8, hbg]; exact Blk.new w7 70 _⟩
          have hgg : rg < bg := by rw [hbg]; exact hgl7
          have l8 : W8.heap.size = bg + 1 := by rw [hW8, hbg]; simp
          rw [← hW8, ← hbg]
          clear hW8 hbg b8 HB7 c7 l77 hgl7
          refine wpList_make_own _ rfl (.const (.int .i64 0)) (.tmp 110) 70 rfl 0 3 i3 _ 1 Yba.underlying70 j3 z3 y3 .i64 .i64 (tot : Int) tot rfl rfl rfl (by rw [x3]; omega) (by unfold maxLen; omega) (Nat.zero_le _) ?_
          intro w9 hO9 hG9
          have b9w := below_of_none hG9
          obtain ⟨rf, hrf⟩ : ∃ rf, rf = W8.heap.size := ⟨_, rfl⟩
          rw [← hrf] at hO9 ⊢
          have hfg : bg < rf := by omega
          have HB9 : Hid (Bx w w.heap.size b4 b6 b7 (.slice a N c) mask tot w9 ∧ SplitMap w9 mb mask ∧ Blk w9 sB 68 [.int .i64 0, .int .i32 0, .int .u32 0, .int .u32 0, .int .u32 0, .int .i32 0, .int .i32 0, .map none, .slice none 0 0, .map none, .map none, .map none, .int .u64 0, .map (some mb), .int .i64 0] ∧ w9.ownsRow 0 81 2 (.slice (some ⟨rp, 0, none⟩) 0 N) 0 [] ∧ w9.ownsRow 0 3 1 (.slice (some ⟨rg, 0, none⟩) 0 tot) 0 [] ∧ Blk w9 bg 70 [.slice (some ⟨rg, 0, none⟩) 0 tot] ∧ w9.ownsRow 0 3 1 (.slice (some ⟨rf, 0, none⟩) 0 tot) 0 []) := ⟨HB8.out.1.on b9w, HB8.out.2.1.later b9w HB8.out.2.1.lt, HB8.out.2.2.1.on b9w, own_block HB8.out.2.2.2.1 (b9w.block rp (HB8.out.2.2.2.1.lt rp rfl).2), own_block HB8.out.2.2.2.2.1 (b9w.block rg (HB8.out.2.2.2.2.1.lt rg rfl).2), HB8.out.2.2.2.2.2.on b9w, hO9⟩
          obtain ⟨bf, hbf⟩ : ∃ bf, bf = w9.heap.size := ⟨_, rfl⟩
          have hff : rf < bf := by rw [hbf]; exact (hO9.lt rf rfl).2
          obtain ⟨W10, hW10⟩ : ∃ W10, W10 = w9.alloc (.cells #[.slice (some ⟨rf, 0, none⟩) 0 tot] 70) := ⟨_, rfl⟩
          have b10 : Below w9.heap.size w9 W10 := by rw [hW10]; exact (Below.refl _ w9).alloc (Nat.le_refl _) _
          have HFX : Hid (Fx w b4 b6 b7 mb sB rp rg bg rf bf (.slice a N c) mask tot (gis G 0) (fis G 0) W10 ∧ W10.ownsRow 0 81 2 (.slice (some ⟨rp, 0, none⟩) 0 N) 0 [] ∧ W10.heap.size = bf + 1) := by
            obtain ⟨q1, q2, q3, q4, q5, q6, q7⟩ := HB9.out
            refine ⟨⟨q1.on b10, q2.later b10 q2.lt, (q3.on b10).cell 13, own_block q5 (b10.block rg (q5.lt rg rfl).2), q6.on b10, own_block q7 (b10.block rf (q7.lt rf rfl).2), by rw [hW10, hbf]; exact Blk.new w9 70 _, ⟨hb7, hms, hsr, hpg, hgg, hfg, hff⟩⟩, own_block q4 (b10.block rp (q4.lt rp rfl).2), by rw [hW10, hbf]; simp⟩
          have c3 : W10.cell? ⟨w.heap.size, 0, none⟩ = some (.slice a N c) := HFX.out.1.bx.g.cell 0
          have hW10' : w9.alloc (.cells #[.slice (some ⟨rf, 0, none⟩) 0 tot] 70) = W10 := hW10.symm
          have c3' : w9.cell? ⟨w.heap.size, 0, none⟩ = some (.slice a N c) := HB9.out.1.g.cell 0
          have l9 : w.heap.size < w9.heap.size := HB9.out.1.g.lt
          clear hO9 hG9 b9w HB8 l8 hrf b10 HB9 hW10
          go_wp2
          rw [← hbf]
          clear hW10' c3' l9 hbf c3
          have hlo : bf < bf + 1 := Nat.lt_succ_self _
          obtain ⟨lo, hlo1⟩ : ∃ lo, lo = bf + 1 := ⟨_, rfl⟩
          have HL0 : Hid (∃ ps : List (List Zf × (Value × Value)), ps.map Prod.fst = G.take 0 ∧ W10.ownsRow 0 81 2 (.slice (some ⟨rp, 0, none⟩) 0 N) 0 (rowsG ps) ∧ DGrp lo W10 ps ∧ Fx w b4 b6 b7 mb sB rp rg bg rf bf (.slice a N c) mask tot (gis G 0) (fis G 0) W10 ∧ lo ≤ W10.heap.size) := ⟨[], rfl, HFX.out.2.1, fun i p h => by simp at h, HFX.out.1, by rw [HFX.out.2.2]; omega⟩
          clear HFX hlo
          go_loopw [18, 114] (fun u t wr => ∃ j : Nat, u = .slice (some ⟨rp, 0, none⟩) j N ∧ t = .int .i64 j ∧ j ≤ N ∧ Hid (∃ ps : List (List Zf × (Value × Value)), ps.map Prod.fst = G.take j ∧ wr.ownsRow 0 81 2 (.slice (some ⟨rp, 0, none⟩) j N) j (rowsG ps) ∧ DGrp lo wr ps ∧ Fx w b4 b6 b7 mb sB rp rg bg rf bf (.slice a N c) mask tot (gis G j) (fis G j) wr ∧ lo ≤ wr.heap.size)) (fun u t wr => (N - intOf t).toNat)
          case atStart => exact ⟨0, rfl, rfl, Nat.zero_le _, HL0⟩
          case round =>
            obtain ⟨j, rfl, rfl, hjn, HH⟩ := hrel
            clear HL0
            by_cases hlt5 : j < N
            · have hlt5' : (j : Int) < (N : Int) := by omega
              obtain ⟨g, hg⟩ : ∃ g, G[j]? = some g := ⟨_, List.getElem?_eq_getElem (by have := HN.out; omega)⟩
              have HG : Hid (G[j]? = some g) := hg
              obtain ⟨ps, hps, hown, hdat, hfx, hlow⟩ := HH.out
              obtain ⟨b, o, e0, _, hblt, hget⟩ := SubL.get (HBi.out wr hfx.bx.b) (by have := HN.out; omega)
              subst e0
              obtain ⟨x, hfam, hcell⟩ := hget j g hg
              obtain ⟨fp, fc, rfl⟩ := SubL.form hfam
              have d0 : wr.cell? ⟨b, o + j, none⟩ = some (.slice fp g.length fc) := by
                have := hcell 0 _ rfl
                rw [Nat.mul_one, Nat.add_zero] at this
                exact this
              have HFM : Hid (∀ W, Below w.heap.size w W → InFams 0 w.heap.size W (.slice fp g.length fc) g) := fun W hb => by
                refine hfam.kept (fun k _ hk => ?_) (Nat.le_refl _) (Nat.le_refl _)
                rw [hb.block k hk, hfx.bx.b.block k hk]
              have hgt : (G.take j).flatten.length + g.length ≤ tot := by
                have h1 := flat_take_succ hg
                have h2 := flat_take_le G (j + 1)
                have h3 := HTO.out
                omega
              have HFZ : Hid (∀ z ∈ g, z.M.length ≤ 1024 ∧ smp z.M ≤ 4096) := fun z hz => by
                have hm : z ∈ G.flatten := List.mem_flatten.2 ⟨g, List.mem_of_getElem? hg, hz⟩
                refine ⟨HF.out.2.2.1 z hm, Nat.le_trans ?_ HF.out.2.2.2⟩
                obtain ⟨l1, l2, e⟩ := List.append_of_mem hm
                rw [e]
                simp [smps]
                omega
              have HGD : Hid (G.getD j [] = g) := by show _ = _; rw [List.getD_eq_getElem?_getD, hg]; rfl
              have HGL : Hid ((gis G j).length = (G.take j).flatten.length ∧ (fis G j).length = (G.take j).flatten.length) := ⟨gis_len G j (by have := HN.out; omega), fis_len G j (by have := HN.out; omega)⟩
              have HH2 : Hid _ := (⟨hps, hown, hdat, hfx, hlow⟩ : _ ∧ _ ∧ _ ∧ _ ∧ _)
              obtain ⟨K, hK⟩ : ∃ K, K = g.length := ⟨_, rfl⟩
              have HK : Hid (g.length = K) := hK.symm
              rw [← hK] at d0 HFM hgt
              clear hK hget hcell hfam hps hown hdat hfx hlow hg HH
              obtain ⟨i79, j79, z79, y79, x79⟩ := info_parts info79
              have hK1 : K ≤ 1024 := by omega
              go_wp2_with (at_make; refine unhid ?_)
              show wpList _ _ _ _ _ _
              refine wpList_make_own _ rfl (.const (.int .i64 0)) (.tmp 120) 71 rfl 0 79 i79 _ 6 Yba.underlying71 j79 z79 y79 .i64 .i64 (K : Int) K rfl rfl rfl (by rw [x79]; omega) (by unfold maxLen; omega) (Nat.zero_le _) ?_
              intro W6 hO6' hG6'
              have b6w := below_of_none hG6'
              obtain ⟨gF, hgF⟩ : ∃ gF, gF = wr.heap.size := ⟨_, rfl⟩
              rw [← hgF] at hO6' ⊢
              have HO6' : Hid (W6.ownsRow 0 79 6 (.slice (some ⟨gF, 0, none⟩) 0 K) 0 []) := hO6'
              have hloF : lo ≤ gF := by rw [hgF]; exact HH2.out.2.2.2.2
              have HP6 : Hid (ps.map Prod.fst = G.take j ∧ W6.ownsRow 0 81 2 (.slice (some ⟨rp, 0, none⟩) j N) j (rowsG ps) ∧ DGrp lo wr ps ∧ Keep lo gF wr W6 ∧ gF = wr.heap.size) := ⟨HH2.out.1, own_block HH2.out.2.1 (b6w.block rp (HH2.out.2.1.lt rp rfl).2), HH2.out.2.2.1, fun k _ hk => b6w.block k (by omega), hgF⟩
              have HS6 : Hid (∃ qs : List (Zf × Value), qs.map Prod.fst = g.take 0 ∧ W6.ownsRow 0 79 6 (.slice (some ⟨gF, 0, none⟩) 0 K) 0 (rowsF qs) ∧ DFam (gF + 1) W6 qs ∧ Fx w b4 b6 b7 mb sB rp rg bg rf bf (.slice (some ⟨b, o, none⟩) N c) mask tot (gis G j ++ List.replicate 0 (j : Int)) (fis G j ++ (List.range 0).map (fun (x : Nat) => (x : Int))) W6 ∧ SameX rp lo gF W6 W6 ∧ gF < W6.heap.size) := by
                refine ⟨[], rfl, hO6', fun i p h => by simp at h, ?_, SameX.refl _ _ _ _, (hO6'.lt gF rfl).2⟩
                simpa using HH2.out.2.2.2.1.below b6w (by have := HH2.out.2.2.2.1.fb.lt; omega)
              have d0' : W6.cell? ⟨b, o + j, none⟩ = some (.slice fp K fc) := by rw [b6w.cell (p := ⟨b, o + j, none⟩) (by have := HH2.out.2.2.2.1.bx.b.size; show b < wr.heap.size; omega)]; exact d0
              clear hO6' hG6' b6w d0 d0' hgF HH2 HO6'
              go_wp2
              go_loopw [23, 124] (fun u t wq => ∃ f : Nat, u = .slice (some ⟨gF, 0, none⟩) f K ∧ t = .int .i64 f ∧ f ≤ K ∧ Hid (∃ qs : List (Zf × Value), qs.map Prod.fst = g.take f ∧ wq.ownsRow 0 79 6 (.slice (some ⟨gF, 0, none⟩) f K) f (rowsF qs) ∧ DFam (gF + 1) wq qs ∧ Fx w b4 b6 b7 mb sB rp rg bg rf bf (.slice (some ⟨b, o, none⟩) N c) mask tot (gis G j ++ List.replicate f (j : Int)) (fis G j ++ (List.range f).map (fun (x : Nat) => (x : Int))) wq ∧ SameX rp lo gF W6 wq ∧ gF < wq.heap.size)) (fun u t wq => (K - intOf t).toNat)
              case atStart => exact ⟨0, rfl, rfl, Nat.zero_le _, HS6⟩
              case round =>
                obtain ⟨f, rfl, rfl, hfk, HH6⟩ := hrel
                clear HS6
                obtain ⟨w6r, hw6r⟩ : ∃ w6r, w6r = wr := ⟨_, rfl⟩
                subst hw6r
                by_cases hlt6 : f < K
                · have hlt6' : (f : Int) < (K : Int) := by omega
                  obtain ⟨z, hzz⟩ : ∃ z, g[f]? = some z := ⟨_, List.getElem?_eq_getElem (by have := HK.out; omega)⟩
                  have HZZ : Hid (g[f]? = some z) := hzz
                  obtain ⟨qs, hqs, hown6, hdf, hfx6, hkp6, hgl6⟩ := HH6.out
                  obtain ⟨fb, fo, e0, _, hfblt, hget⟩ := SubL.get (HFM.out w6r hfx6.bx.b) (by have := HK.out; omega)
                  subst e0
                  obtain ⟨mv, ⟨hmet, hk0, hk1⟩, hcell⟩ := hget f z hzz
                  obtain ⟨mp, mc, rfl⟩ := SubL.form hmet
                  have d0 : w6r.cell? ⟨fb, fo + f * 3, none⟩ = _ := hcell 0 _ rfl
                  have d1 : w6r.cell? ⟨fb, fo + f * 3 + 1, none⟩ = _ := hcell 1 _ rfl
                  have d2 : w6r.cell? ⟨fb, fo + f * 3 + 2, none⟩ = _ := hcell 2 _ rfl
                  have hzM := HFZ.out z (List.mem_of_getElem? hzz)
                  have HME : Hid (∀ W, Below w.heap.size w W → InMets 0 w.heap.size W (.slice mp z.M.length mc) z.M) := fun W hb => by
                    refine hmet.kept (fun k _ hk => ?_) (Nat.le_refl _) (Nat.le_refl _)
                    rw [hb.block k hk, hfx6.bx.b.block k hk]
                  have HH7 : Hid _ := (⟨hqs, hown6, hdf, hfx6, hkp6, hgl6⟩ : _ ∧ _ ∧ _ ∧ _ ∧ _ ∧ _)
                  obtain ⟨Q, hQ⟩ : ∃ Q, Q = z.M.length := ⟨_, rfl⟩
                  have HQ : Hid (z.M.length = Q) := hQ.symm
                  have hQ1 : Q ≤ 1024 := by rw [hQ]; exact hzM.1
                  have HQS : Hid (smp z.M ≤ 4096) := hzM.2
                  rw [← hQ] at d2 HME
                  clear hQ hget hcell hmet hqs hown6 hdf hfx6 hkp6 hgl6 hzM hzz HH6
                  obtain ⟨i30, j30, z30, y30, x30⟩ := info_parts info30
                  go_wp2_with (at_make; refine unhid ?_)
                  show wpList _ _ _ _ _ _
                  obtain ⟨zb, hzb⟩ : ∃ zb, zb = w6r.heap.size := ⟨_, rfl⟩
                  obtain ⟨WZ, hWZ⟩ : ∃ WZ, WZ = w6r.alloc (.cells #[.int .u8 z.k, .bool z.c, .slice mp Q mc] 43) := ⟨_, rfl⟩
                  have bz : Below w6r.heap.size w6r WZ := by rw [hWZ]; exact (Below.refl _ w6r).alloc (Nat.le_refl _) _
                  have hzblk : Blk WZ zb 43 [.int .u8 z.k, .bool z.c, .slice mp Q mc] := by rw [hWZ, hzb]; exact Blk.new w6r 43 _
                  rw [← hWZ, ← hzb]
                  clear hWZ d0 d1 d2
                  refine wpList_make_own _ rfl (.const (.int .i64 0)) (.tmp 131) 27 rfl 0 30 i30 _ 2 Yba.underlying27 j30 z30 y30 .i64 .i64 (Q : Int) Q rfl rfl rfl (by rw [x30]; omega) (by unfold maxLen; omega) (Nat.zero_le _) ?_
                  intro W7 hO7 hG7
                  have b7w := below_of_none hG7
                  obtain ⟨gM, hgM⟩ : ∃ gM, gM = WZ.heap.size := ⟨_, rfl⟩
                  rw [← hgM] at hO7 ⊢
                  have hzM' : zb < gM := by rw [hgM]; exact hzblk.lt
                  have hzg : gF < zb := by rw [hzb]; exact HH7.out.2.2.2.2.2
                  have HZB : Hid (Blk W7 zb 43 [.int .u8 z.k, .bool z.c, .slice mp Q mc]) := hzblk.on b7w
                  have HWW : Hid (Below w6r.heap.size w6r W7) := bz.trans (b7w.mono bz.size)
                  have HZE : Hid (zb = w6r.heap.size) := hzb
                  have HS7 : Hid (∃ rs : List (List Int × Value), rs.map Prod.fst = z.M.take 0 ∧ W7.ownsRow 0 30 2 (.slice (some ⟨gM, 0, none⟩) 0 Q) 0 (rowsM rs) ∧ DMet (gM + 1) W7 rs ∧ Below gM W7 W7 ∧ gM < W7.heap.size) := ⟨[], rfl, hO7, fun i p h => by simp at h, Below.refl _ _, (hO7.lt gM rfl).2⟩
                  have c2 : W7.cell? ⟨zb, 2, none⟩ = some (.slice mp Q mc) := HZB.out.cell 2
                  clear hO7 hG7 b7w bz hzblk hzb hgM
                  go_wp2
                  go_loopw [26, 136] (fun u t wq => ∃ i : Nat, u = .slice (some ⟨gM, 0, none⟩) i Q ∧ t = .int .i64 i ∧ i ≤ Q ∧ Hid (∃ rs : List (List Int × Value), rs.map Prod.fst = z.M.take i ∧ wq.ownsRow 0 30 2 (.slice (some ⟨gM, 0, none⟩) i Q) i (rowsM rs) ∧ DMet (gM + 1) wq rs ∧ Below gM W7 wq ∧ gM < wq.heap.size)) (fun u t wq => (Q - intOf t).toNat)
                  case atStart => exact ⟨0, rfl, rfl, Nat.zero_le _, HS7⟩
                  case round =>
                    obtain ⟨i7, rfl, rfl, hi7, HH8⟩ := hrel
                    clear HS7 c2
                    by_cases hlt7 : i7 < Q
                    · have hlt7' : (i7 : Int) < (Q : Int) := by omega
                      obtain ⟨ms, hms⟩ : ∃ ms, z.M[i7]? = some ms := ⟨_, List.getElem?_eq_getElem (by have := HQ.out; omega)⟩
                      have HMS : Hid (z.M[i7]? = some ms) := hms
                      obtain ⟨rs, hrs, hown7, hdm, hbl7, hgl7⟩ := HH8.out
                      have hbw : Below w.heap.size w wr := by
                        have h1 := HH7.out.2.2.2.1.bx.b
                        have h2 := h1.trans (HWW.out.mono h1.size)
                        exact h2.trans (hbl7.mono (by have := HZE.out; have := h1.size; omega))
                      obtain ⟨mq, mo, e0, _, hmblt, hget⟩ := SubL.get (HME.out wr hbw) (by have := HQ.out; omega)
                      subst e0
                      obtain ⟨x, hbs, hcell⟩ := hget i7 ms hms
                      obtain ⟨sp, sc, rfl⟩ := SubL.form hbs
                      have d0 : wr.cell? ⟨mq, mo + i7, none⟩ = some (.slice sp ms.length sc) := by
                        have := hcell 0 _ rfl
                        rw [Nat.mul_one, Nat.add_zero] at this
                        exact this
                      have HBS : Hid (∀ W, Below w.heap.size w W → BytesL 0 w.heap.size W (.slice sp ms.length sc) ms) := fun W hb => by
                        refine hbs.kept (fun k _ hk => ?_) (Nat.le_refl _) (Nat.le_refl _)
                        rw [hb.block k hk, hbw.block k hk]
                      have HBW : Hid (Below w.heap.size w wr) := hbw
                      have HH9 : Hid _ := (⟨hrs, hown7, hdm, hbl7, hgl7⟩ : _ ∧ _ ∧ _ ∧ _ ∧ _)
                      have hLm : ms.length ≤ 4096 := by
                        have h1 := HQS.out
                        have h2 := take_flatten_le z.M (i7 + 1)
                        rw [flat_take_succ hms] at h2
                        unfold smp at h1
                        omega
                      obtain ⟨L, hL⟩ : ∃ L, L = ms.length := ⟨_, rfl⟩
                      have HL : Hid (ms.length = L) := hL.symm
                      rw [← hL] at d0 HBS hLm
                      clear hL hget hcell hbs hrs hown7 hdm hbl7 hgl7 hbw hms HH8
                      obtain ⟨i75, j75, z75, y75, x75⟩ := info_parts info75
                      go_wp2_with (at_make; refine unhid ?_)
                      show wpList _ _ _ _ _ _
                      refine wpList_make_own _ rfl (.const (.int .i64 0)) (.tmp 141) 28 rfl 0 75 i75 _ 6 Yba.underlying28 j75 z75 y75 .i64 .i64 (L : Int) L rfl rfl rfl (by rw [x75]; omega) (by unfold maxLen; omega) (Nat.zero_le _) ?_
                      intro W8 hO8 hG8
                      have b8w := below_of_none hG8
                      obtain ⟨gS, hgS⟩ : ∃ gS, gS = wr.heap.size := ⟨_, rfl⟩
                      have HGS : Hid (gS = wr.heap.size) := hgS
                      rw [← hgS] at hO8 ⊢
                      have hMS : gM < gS := by rw [hgS]; exact HH9.out.2.2.2.2
                      have HW8 : Hid (Below gS wr W8) := by rw [hgS]; exact b8w
                      have HS8 : Hid (∃ ss : List (Int × Nat), ss.map Prod.fst = ms.take 0 ∧ W8.ownsRow 0 75 6 (.slice (some ⟨gS, 0, none⟩) 0 L) 0 (rowsS ss) ∧ Below gS W8 W8 ∧ gS < W8.heap.size) := ⟨[], rfl, hO8, Below.refl _ _, (hO8.lt gS rfl).2⟩
                      clear hO8 hG8 b8w hgS d0
                      go_wp2
                      go_loopw [29, 145] (fun u t wq => ∃ i : Nat, u = .slice (some ⟨gS, 0, none⟩) i L ∧ t = .int .i64 i ∧ i ≤ L ∧ Hid (∃ ss : List (Int × Nat), ss.map Prod.fst = ms.take i ∧ wq.ownsRow 0 75 6 (.slice (some ⟨gS, 0, none⟩) i L) i (rowsS ss) ∧ Below gS W8 wq ∧ gS < wq.heap.size)) (fun u t wq => (L - intOf t).toNat)
                      case atStart => exact ⟨0, rfl, rfl, Nat.zero_le _, HS8⟩
                      case round =>
                        obtain ⟨i8, rfl, rfl, hi8, HHS⟩ := hrel
                        clear HS8
                        by_cases hlt8 : i8 < L
                        · have hlt8' : (i8 : Int) < (L : Int) := by omega
                          obtain ⟨x, hx⟩ : ∃ x, ms[i8]? = some x := ⟨_, List.getElem?_eq_getElem (by have := HL.out; omega)⟩
                          obtain ⟨ss, hss, hown8, hbl8, hgl8⟩ := HHS.out
                          have hbw : Below w.heap.size w wr := HBW.out.trans ((HW8.out.trans hbl8).mono (by have := HGS.out; have := HBW.out.size; omega))
                          obtain ⟨sq, so, e0, _, hsblt, hget⟩ := SubL.get (HBS.out wr hbw) (by have := HL.out; omega)
                          subst e0
                          obtain ⟨_, hxb, hcell⟩ := hget i8 x hx
                          obtain ⟨x0, x1⟩ := hxb
                          have d0 : wr.cell? ⟨sq, so + i8, none⟩ = some (.int .u8 x) := by
                            have := hcell 0 _ rfl
                            rw [Nat.mul_one, Nat.add_zero] at this
                            exact this
                          have HX : Hid (ms[i8]? = some x) := hx
                          have HHT : Hid _ := (⟨hss, hown8, hbl8, hgl8⟩ : _ ∧ _ ∧ _ ∧ _)
                          clear hget hcell hx hss hown8 hbl8 hgl8 hbw HHS
                          obtain ⟨X, hcv⟩ : ∃ X : Nat, ∀ w, Sem.run Yba.prog (convert 5 72 (.int .u8 x)) w = .ok (.float .f64 X) w := ⟨_, fun w => run_convert_int_float w 5 72 .u8 .f64 x rfl Yba.underlying72⟩
                          go_wp2_with (first | (go_at_call 10; refine (suf_at x x0 x1 _).mono ?_; rintro e w1 ⟨rfl, rfl⟩) | (at_builtin; refine unhid ?_))
                          show wpList _ _ _ _ _ _
                          have hb1 := Blk.new w1 75 [.string (sfB x), .float .f64 0, .string ⟨#[]⟩, .float .f64 X, .string ⟨#[]⟩, .pointer none]
                          refine wpList_append_fits _ rfl (.tmp 149) (.tmp 155) 28 rfl 0 75 i75 6 Yba.underlying28 j75 y75 gS i8 L (rowsS ss) rfl (World.ownsRow.alloc HHT.out.2.1 _) ⟨w1.heap.size, 0, none⟩ 1 1 [.string (sfB x), .float .f64 0, .string ⟨#[]⟩, .float .f64 X, .string ⟨#[]⟩, .pointer none] rfl rfl (fun jj u hu => by rw [Addr.add_mid, Nat.zero_add, hb1.cell jj]; exact hu) (smpC_one x X) (by omega) ?_
                          intro w2 hO2 hG2
                          have HE : Hid (∃ ss : List (Int × Nat), ss.map Prod.fst = ms.take (i8 + 1) ∧ w2.ownsRow 0 75 6 (.slice (some ⟨gS, 0, none⟩) (i8 + 1) L) (i8 + 1) (rowsS ss) ∧ Below gS W8 w2 ∧ gS < w2.heap.size) := by
                            obtain ⟨q1, q2, q3, q4⟩ := HHT.out
                            refine ⟨ss ++ [(x, X)], ?_, ?_, (q3.alloc (by have := q3.size; omega) _).grown hG2 (by have := q3.size; simp; omega) (fun k e => by cases e; exact Nat.le_refl _), (hO2.lt gS rfl).2⟩
                            · rw [List.map_append, q1, List.take_add_one, HX.out]; rfl
                            · have e9 : rowsS (ss ++ [(x, X)]) = rowsS ss ++ [.string (sfB x), .float .f64 0, .string ⟨#[]⟩, .float .f64 X, .string ⟨#[]⟩, .pointer none] := by unfold rowsS; rw [List.map_append, List.flatten_append]; simp [smpC]; rfl
                              rw [e9]
                              exact hO2
                          clear hO2 hG2 HHT d0 hcv hb1
                          go_wp2
                          refine ⟨⟨i8 + 1, rfl, rfl, by omega, HE⟩, by simp [intOf]; omega⟩
                        · have hlt8' : ¬ (i8 : Int) < (L : Int) := by omega
                          obtain rfl : L = i8 := by omega
                          obtain ⟨ss, hss, hown8, hbl8, hgl8⟩ := HHS.out
                          have hbg : Below gS _ wr := HW8.out.trans hbl8
                          have hO30 := own_block HH9.out.2.1 (hbg.block gM hMS)
                          have hsl : ss.length = L := by
                            have := congrArg List.length hss
                            rw [List.length_map, List.length_take] at this
                            have := HL.out
                            omega
                          have hdm : DMet (gM + 1) wr rs := HH9.out.2.2.1.kept (Keep.of_below hbg (by have := HGS.out; omega)) hbg.size
                          have hsa : SampsL (gM + 1) wr.heap.size wr (.slice (some ⟨gS, 0, none⟩) L L) ms := samps_done hown8 hsl (by rw [hss, List.take_of_length_le (by have := HL.out; omega)]) hMS
                          have HR8 : Hid (wr.ownsRow 0 30 2 (.slice (some ⟨gM, 0, none⟩) i7 Q) i7 (rowsM rs) ∧ DMet (gM + 1) wr rs ∧ SampsL (gM + 1) wr.heap.size wr (.slice (some ⟨gS, 0, none⟩) L L) ms ∧ Below gM W7 wr ∧ rs.map Prod.fst = z.M.take i7) := ⟨hO30, hdm, hsa, HH9.out.2.2.2.1.trans (hbg.mono (Nat.le_of_lt hMS)), HH9.out.1⟩
                          clear hss hown8 hbl8 hgl8 hbg hO30 hsl hdm hsa HHS
                          go_wp2_with (at_builtin; refine unhid ?_)
                          show wpList _ _ _ _ _ _
                          have hb1 := Blk.new wr 30 [.slice none 0 0, .slice (some ⟨gS, 0, none⟩) L L]
                          refine wpList_append_fits _ rfl (.tmp 158) (.tmp 161) 27 rfl 0 30 i30 2 Yba.underlying27 j30 y30 gM i7 Q (rowsM rs) rfl (World.ownsRow.alloc HR8.out.1 _) ⟨wr.heap.size, 0, none⟩ 1 1 [.slice none 0 0, .slice (some ⟨gS, 0, none⟩) L L] rfl rfl (fun jj u hu => by rw [Addr.add_mid, Nat.zero_add, hb1.cell jj]; exact hu) (by intro u hu; simp at hu; rcases hu with rfl | rfl <;> rfl) (by omega) ?_
                          intro w2 hO2 hG2
                          have HE : Hid (∃ rs : List (List Int × Value), rs.map Prod.fst = z.M.take (i7 + 1) ∧ w2.ownsRow 0 30 2 (.slice (some ⟨gM, 0, none⟩) (i7 + 1) Q) (i7 + 1) (rowsM rs) ∧ DMet (gM + 1) w2 rs ∧ Below gM W7 w2 ∧ gM < w2.heap.size) := by
                            obtain ⟨q1, q2, q3, q4, q5⟩ := HR8.out
                            have hk : Keep (gM + 1) wr.heap.size wr w2 := (Keep.of_below ((Below.refl _ wr).alloc (Nat.le_refl _) _) (Nat.le_refl _)).trans (Keep.of_grown hG2 (by simp) (fun k e => by cases e; omega))
                            have hs2 : wr.heap.size ≤ w2.heap.size := by have := hG2.size; simp at this; omega
                            refine ⟨rs ++ [(ms, .slice (some ⟨gS, 0, none⟩) L L)], ?_, ?_, (q2.kept hk hs2).snoc (q3.kept hk (Nat.le_refl _) hs2), (q4.alloc (by have := q4.size; have := (q1.lt gM rfl).2; omega) _).grown hG2 (by have := (q1.lt gM rfl).2; simp; omega) (fun k e => by cases e; exact Nat.le_refl _), (hO2.lt gM rfl).2⟩
                            · rw [List.map_append, q5, List.take_add_one, HMS.out]; rfl
                            · have e9 : rowsM (rs ++ [(ms, .slice (some ⟨gS, 0, none⟩) L L)]) = rowsM rs ++ [.slice none 0 0, .slice (some ⟨gS, 0, none⟩) L L] := by unfold rowsM; rw [List.map_append, List.flatten_append]; simp [metC]
                              rw [e9]
                              exact hO2
                          clear hO2 hG2 hb1 HR8
                          go_wp2
                          refine ⟨⟨i7 + 1, rfl, rfl, by omega, HE⟩, by simp [intOf]; omega⟩
                    · have hlt7' : ¬ (i7 : Int) < (Q : Int) := by omega
                      obtain rfl : Q = i7 := by omega
                      obtain ⟨rs, hrs, hown7, hdm, hbl7, hgl7⟩ := HH8.out
                      have hrl : rs.length = Q := by
                        have := congrArg List.length hrs
                        rw [List.length_map, List.length_take] at this
                        have := HQ.out
                        omega
                      have hme : MetsL (gF + 1) wr.heap.size wr (.slice (some ⟨gM, 0, none⟩) Q Q) z.M := mets_done hown7 hrl (by rw [hrs, List.take_of_length_le (by have := HQ.out; omega)]) (by omega) hdm
                      have hb67 : Below zb w6r wr := by
                        have h1 := HWW.out
                        rw [← HZE.out] at h1
                        exact h1.trans (hbl7.mono (Nat.le_of_lt hzM'))
                      have hO79 := own_block HH7.out.2.1 (hb67.block gF hzg)
                      have hdf : DFam (gF + 1) wr qs := HH7.out.2.2.1.kept (Keep.of_below hb67 (by have := HZE.out; omega)) hb67.size
                      have hfxr : Fx w b4 b6 b7 mb sB rp rg bg rf bf (.slice (some ⟨b, o, none⟩) N c) mask tot (gis G j ++ List.replicate f (j : Int)) (fis G j ++ (List.range f).map (fun (x : Nat) => (x : Int))) wr := HH7.out.2.2.2.1.below hb67 (by have := HH7.out.2.2.2.1.fb.lt; have := HZE.out; omega)
                      have hsx : SameX rp lo gF W6 wr := fun k hk => (hb67.block k (by have := hfxr.o; omega)).trans (HH7.out.2.2.2.2.1 k hk)
                      have hzb2 : Blk wr zb 43 [.int .u8 z.k, .bool z.c, .slice mp Q mc] := HZB.out.later hbl7 hzM'
                      have q0 : wr.cell? ⟨zb, 0, none⟩ = some (.int .u8 z.k) := hzb2.cell 0
                      have q1 : wr.cell? ⟨zb, 1, none⟩ = some (.bool z.c) := hzb2.cell 1
                      have HR7 : Hid (MetsL (gF + 1) wr.heap.size wr (.slice (some ⟨gM, 0, none⟩) Q Q) z.M ∧ wr.ownsRow 0 79 6 (.slice (some ⟨gF, 0, none⟩) f K) f (rowsF qs) ∧ DFam (gF + 1) wr qs ∧ Fx w b4 b6 b7 mb sB rp rg bg rf bf (.slice (some ⟨b, o, none⟩) N c) mask tot (gis G j ++ List.replicate f (j : Int)) (fis G j ++ (List.range f).map (fun (x : Nat) => (x : Int))) wr ∧ SameX rp lo gF W6 wr ∧ qs.map Prod.fst = g.take f) := ⟨hme, hO79, hdf, hfxr, hsx, HH7.out.1⟩
                      have zlt : zb < wr.heap.size := hzb2.lt
                      clear hrs hown7 hdm hbl7 hgl7 hrl hme hb67 hO79 hdf hfxr hsx hzb2 HH8
                      have OD : Hid (∀ o, (wr.drew.alloc o).ownsRow 0 79 6 (.slice (some ⟨gF, 0, none⟩) f K) f (rowsF qs)) := fun o => World.ownsRow.alloc (w := wr.drew) HR7.out.2.1 o
                      have H1F : Hid (∀ u ∈ ([.string (nmB z.k), .string (tyB z.c), .string ⟨#[]⟩, .string ⟨#[104]⟩, .bool false, .slice (some ⟨gM, 0, none⟩) Q Q] : List Value), u.oneCell' = true) := famC_one _ _ _ _ _ _
                      have HNF : Hid (∀ (jj : Nat) (u : Value), ([.string (nmB z.k), .string (tyB z.c), .string ⟨#[]⟩, .string ⟨#[104]⟩, .bool false, .slice (some ⟨gM, 0, none⟩) Q Q] : List Value)[jj]? = some u → (wr.drew.alloc (.cells ([.string (nmB z.k), .string (tyB z.c), .string ⟨#[]⟩, .string ⟨#[104]⟩, .bool false, .slice (some ⟨gM, 0, none⟩) Q Q] : List Value).toArray 79)).cell? ((⟨wr.heap.size, 0, none⟩ : Addr).add jj) = some u) := fun jj u hu => by
                        have hb1 := Blk.new wr.drew 79 [.string (nmB z.k), .string (tyB z.c), .string ⟨#[]⟩, .string ⟨#[104]⟩, .bool false, .slice (some ⟨gM, 0, none⟩) Q Q]
                        rw [Addr.add_mid, Nat.zero_add]
                        exact (hb1.cell jj).trans hu
                      obtain ⟨i79', j79', z79', y79', x79'⟩ := info_parts info79
                      have HKZ : Hid (∀ o w2, (wr.drew.alloc o).grownBy w2 (some gF) → w2.cell? ⟨zb, 0, none⟩ = some (.int .u8 z.k) ∧ w2.cell? ⟨zb, 1, none⟩ = some (.bool z.c)) := fun o w2 hG => by
                        have he : w2.heap[zb]? = wr.heap[zb]? := (hG.block zb (by show zb < (wr.drew.alloc o).heap.size; rw [World.size_alloc]; show zb < wr.heap.size + 1; omega) (by simp; omega)).trans (((Below.refl _ wr.drew).alloc (Nat.le_refl _) o).block zb zlt)
                        exact ⟨(World.cell?_of_block (w := wr) he).trans q0, (World.cell?_of_block (w := wr) he).trans q1⟩
                      go_wp2
                      go_region_held3 (fun w' => w'.cell? ⟨zb, 0, none⟩ = some (.int .u8 z.k) ∧ w'.cell? ⟨zb, 1, none⟩ = some (.bool z.c))
                        (first | go_keep | (exact HKZ.out _ _ (by assumption)))
                        (first
                          | (go_at_call 9; refine (name_at z.k hk0 hk1 _).mono ?_; rintro e w1 ⟨rfl, rfl⟩)
                          | (go_at_call 11; refine (typ_at z.c _).mono ?_; rintro e w1 ⟨rfl, rfl⟩)
                          | (refine step_append_fits rfl (.tmp 164) (.tmp 173) 71 rfl 0 79 i79' 6 Yba.underlying71 j79' y79' gF f K _ (by simp [Act.eval, Act.put]) (OD.out _) ⟨wr.heap.size, 0, none⟩ 1 1 [.string (nmB z.k), .string (tyB z.c), .string ⟨#[]⟩, .string ⟨#[104]⟩, .bool false, .slice (some ⟨gM, 0, none⟩) Q Q] (by simp [Act.eval, Act.put]) rfl HNF.out H1F.out (by omega) ?_; intro w2 hO2 hG2))
                      have h2s : wr.heap.size ≤ w2.heap.size := by have h8 : (wr.alloc _).heap.size ≤ w2.heap.size := hG2.size; rw [World.size_alloc] at h8; omega
                      have hall : ∀ k, k < wr.heap.size → k ≠ gF → w2.heap[k]? = wr.heap[k]? := fun k hk hn => (hG2.block k (by show k < (wr.alloc _).heap.size; rw [World.size_alloc]; omega) (by simp; omega)).trans (((Below.refl _ wr).alloc (Nat.le_refl _) _).block k hk)
                      have HR2 : Hid (MetsL (gF + 1) w2.heap.size w2 (.slice (some ⟨gM, 0, none⟩) Q Q) z.M ∧ w2.ownsRow 0 79 6 (.slice (some ⟨gF, 0, none⟩) (f + 1) K) (f + 1) (rowsF (qs ++ [(z, .slice (some ⟨gM, 0, none⟩) Q Q)])) ∧ DFam (gF + 1) w2 qs ∧ Fx w b4 b6 b7 mb sB rp rg bg rf bf (.slice (some ⟨b, o, none⟩) N c) mask tot (gis G j ++ List.replicate f (j : Int)) (fis G j ++ (List.range f).map (fun (x : Nat) => (x : Int))) w2 ∧ SameX rp lo gF W6 w2 ∧ qs.map Prod.fst = g.take f) := by
                        obtain ⟨p1, p2, p3, p4, p5, p6⟩ := HR7.out
                        have hk : Keep (gF + 1) wr.heap.size wr w2 := fun k h1 h2 => hall k h2 (by omega)
                        have hbf : bf < gF := by have := p4.fb.lt; omega
                        refine ⟨p1.kept hk (Nat.le_refl _) h2s, ?_, p3.kept hk h2s, p4.any (fun k h1 _ => hall k (by have := p4.fb.lt; omega) (by omega)) hG2.os hG2.tape hG2.output h2s, fun k h1 => ?_, p6⟩
                        · have e9 : rowsF (qs ++ [(z, .slice (some ⟨gM, 0, none⟩) Q Q)]) = rowsF qs ++ [.string (nmB z.k), .string (tyB z.c), .string ⟨#[]⟩, .string ⟨#[104]⟩, .bool false, .slice (some ⟨gM, 0, none⟩) Q Q] := by unfold rowsF; rw [List.map_append, List.flatten_append]; simp [famC]; rfl
                          rw [e9]
                          exact hO2
                        · rw [hall k (by have := p4.o; have := p4.fb.lt; have := (p2.lt gF rfl).2; omega) (by have := p4.o; omega)]
                          exact p5 k h1
                      clear hO2 hG2 hall HR7 OD H1F HNF HKZ q0 q1 h2s zlt
                      obtain ⟨GL, hGL⟩ : ∃ GL, GL = gis G j ++ List.replicate f (j : Int) := ⟨_, rfl⟩
                      obtain ⟨FL, hFL⟩ : ∃ FL, FL = fis G j ++ (List.range f).map (fun (x : Nat) => (x : Int)) := ⟨_, rfl⟩
                      have HGF : Hid (GL ++ [(j : Int)] = gis G j ++ List.replicate (f + 1) (j : Int) ∧ FL ++ [(f : Int)] = fis G j ++ (List.range (f + 1)).map (fun (x : Nat) => (x : Int)) ∧ GL.length = (gis G j).length + f ∧ FL.length = (fis G j).length + f) := by
                        rw [hGL, hFL]
                        refine ⟨by rw [List.replicate_succ', List.append_assoc], by rw [List.range_succ, List.map_append, List.append_assoc]; rfl, by simp, by simp⟩
                      rw [← hGL, ← hFL] at HR2
                      clear hGL hFL
                      obtain ⟨ng, hng⟩ : ∃ ng, ng = GL.length := ⟨_, rfl⟩
                      obtain ⟨nf, hnf⟩ : ∃ nf, nf = FL.length := ⟨_, rfl⟩
                      have HNG : Hid (ng = GL.length ∧ nf = FL.length) := ⟨hng, hnf⟩
                      have hg1 : ng + 1 ≤ tot := by have := HGF.out.2.2.1; have := HGL.out.1; omega
                      have hf1 : nf + 1 ≤ tot := by have := HGF.out.2.2.2; have := HGL.out.2; omega
                      have c19 : w2.cell? ⟨bg, 0, none⟩ = some (.slice (some ⟨rg, 0, none⟩) ng tot) := by rw [hng]; exact HR2.out.2.2.2.1.gb.cell 0
                      clear hng hnf
                      go_wp2_with (at_builtin; refine unhid ?_)
                      show wpList _ _ _ _ _ _
                      have hO19 : (w2.alloc (.cells #[.int .i64 (j : Int)] 3)).ownsRow 0 3 1 (.slice (some ⟨rg, 0, none⟩) ng tot) ng (ints GL) := by rw [HNG.out.1]; exact World.ownsRow.alloc HR2.out.2.2.2.1.gr _
                      refine wpList_append_fits _ rfl (.tmp 175) (.tmp 177) 70 rfl 0 3 i3 1 Yba.underlying70 j3 y3 rg ng tot (ints GL) rfl hO19 ⟨w2.heap.size, 0, none⟩ 1 1 [.int .i64 (j : Int)] rfl rfl (cell_one_new _ _ _) (by intro u hu; simp at hu; rw [hu]; rfl) hg1 ?_
                      intro w3 hO3 hG3
                      have HP3 : Hid (MetsL (gF + 1) w2.heap.size w2 (.slice (some ⟨gM, 0, none⟩) Q Q) z.M ∧ Fx w b4 b6 b7 mb sB rp rg bg rf bf (.slice (some ⟨b, o, none⟩) N c) mask tot (GL ++ [(j : Int)]) FL (w3.setCell ⟨bg, 0, none⟩ (.slice (some ⟨rg, 0, none⟩) (ng + 1) tot)) ∧ (∀ k, k < w2.heap.size → k ≠ rg → k ≠ bg → (w3.setCell ⟨bg, 0, none⟩ (.slice (some ⟨rg, 0, none⟩) (ng + 1) tot)).heap[k]? = w2.heap[k]?) ∧ w2.heap.size ≤ w3.heap.size) := by
                        have hw2 : Below w2.heap.size w2 (w2.alloc (.cells #[.int .i64 (j : Int)] 3)) := (Below.refl _ w2).alloc (Nat.le_refl _) _
                        have hfa := HR2.out.2.2.2.1.below hw2 HR2.out.2.2.2.1.fb.lt
                        have hs3 : w2.heap.size ≤ w3.heap.size := Nat.le_trans hw2.size hG3.size
                        have hq : ng = GL.length := HNG.out.1
                        refine ⟨HR2.out.1, ?_, fun k h1 h2 h3 => ?_, hs3⟩
                        · rw [hq] at hO3 ⊢
                          exact hfa.pushG hO3 hG3
                        · rw [(grownBy_setCell w3 bg 0 _).block k (by omega) (by simp; omega), hG3.block k (by have := hw2.size; omega) (by simp; omega)]
                          exact hw2.block k h1
                      have c19' : w3.cell? ⟨bg, 0, none⟩ = some (.slice (some ⟨rg, 0, none⟩) ng tot) := by
                        have hbk : Blk w3 bg 70 [.slice (some ⟨rg, 0, none⟩) GL.length tot] := (HR2.out.2.2.2.1.gb.alloc _).kept hG3 (by have := HR2.out.2.2.2.1.o; simp; omega)
                        rw [HNG.out.1]
                        exact hbk.cell 0
                      have f19' : w3.frozen? ⟨bg, 0, none⟩ = false := ((HR2.out.2.2.2.1.gb.alloc _).kept hG3 (by have := HR2.out.2.2.2.1.o; simp; omega)).frozen 0
                      have c20 : (w3.setCell ⟨bg, 0, none⟩ (.slice (some ⟨rg, 0, none⟩) (ng + 1) tot)).cell? ⟨bf, 0, none⟩ = some (.slice (some ⟨rf, 0, none⟩) nf tot) := by rw [HNG.out.2]; exact HP3.out.2.1.fb.cell 0
                      clear hO3 hG3 hO19 c19
                      go_wp2_with (at_builtin; refine unhid ?_)
                      show wpList _ _ _ _ _ _
                      obtain ⟨W4', hW4'⟩ : ∃ W4', W4' = w3.setCell ⟨bg, 0, none⟩ (.slice (some ⟨rg, 0, none⟩) (ng + 1) tot) := ⟨_, rfl⟩
                      rw [← hW4'] at HP3 c20 ⊢
                      have hs4 : W4'.heap.size = w3.heap.size := by rw [hW4']; simp
                      clear hW4' c19' f19'
                      have hO20 : (W4'.alloc (.cells #[.int .i64 (f : Int)] 3)).ownsRow 0 3 1 (.slice (some ⟨rf, 0, none⟩) nf tot) nf (ints FL) := by rw [HNG.out.2]; exact World.ownsRow.alloc HP3.out.2.1.fr _
                      refine wpList_append_fits _ rfl (.tmp 179) (.tmp 181) 70 rfl 0 3 i3 1 Yba.underlying70 j3 y3 rf nf tot (ints FL) rfl hO20 ⟨w3.heap.size, 0, none⟩ 1 1 [.int .i64 (f : Int)] rfl rfl (by have h9 := cell_one_new W4' (.int .i64 (f : Int)) 3; rw [hs4] at h9; exact h9) (by intro u hu; simp at hu; rw [hu]; rfl) hf1 ?_
                      intro w5 hO5 hG5
                      have HP5 : Hid (∃ qs : List (Zf × Value), qs.map Prod.fst = g.take (f + 1) ∧ (w5.setCell ⟨bf, 0, none⟩ (.slice (some ⟨rf, 0, none⟩) (nf + 1) tot)).ownsRow 0 79 6 (.slice (some ⟨gF, 0, none⟩) (f + 1) K) (f + 1) (rowsF qs) ∧ DFam (gF + 1) (w5.setCell ⟨bf, 0, none⟩ (.slice (some ⟨rf, 0, none⟩) (nf + 1) tot)) qs ∧ Fx w b4 b6 b7 mb sB rp rg bg rf bf (.slice (some ⟨b, o, none⟩) N c) mask tot (gis G j ++ List.replicate (f + 1) (j : Int)) (fis G j ++ (List.range (f + 1)).map (fun (x : Nat) => (x : Int))) (w5.setCell ⟨bf, 0, none⟩ (.slice (some ⟨rf, 0, none⟩) (nf + 1) tot)) ∧ SameX rp lo gF W6 (w5.setCell ⟨bf, 0, none⟩ (.slice (some ⟨rf, 0, none⟩) (nf + 1) tot)) ∧ gF < (w5.setCell ⟨bf, 0, none⟩ (.slice (some ⟨rf, 0, none⟩) (nf + 1) tot)).heap.size) := by
                        obtain ⟨m1, m2, m3, m4, m5, m6⟩ := HR2.out
                        obtain ⟨n1, n2, n3, n4⟩ := HP3.out
                        have hw4 : Below W4'.heap.size W4' (W4'.alloc (.cells #[.int .i64 (f : Int)] 3)) := (Below.refl _ W4').alloc (Nat.le_refl _) _
                        have hfa := n2.below hw4 n2.fb.lt
                        have hs5 : W4'.heap.size ≤ w5.heap.size := Nat.le_trans hw4.size hG5.size
                        have hq : nf = FL.length := HNG.out.2
                        have hgl := (m2.lt gF rfl).2
                        have ho := m4.o
                        have hbl : bf < gF := by have := n2.o; omega
                        have hsz : (w5.setCell ⟨bf, 0, none⟩ (.slice (some ⟨rf, 0, none⟩) (nf + 1) tot)).heap.size = w5.heap.size := by simp
                        have hall : ∀ k, k < w2.heap.size → k ≠ rg → k ≠ bg → k ≠ rf → k ≠ bf → (w5.setCell ⟨bf, 0, none⟩ (.slice (some ⟨rf, 0, none⟩) (nf + 1) tot)).heap[k]? = w2.heap[k]? := fun k h1 h2 h3 h4 h5 => by
                          rw [(grownBy_setCell w5 bf 0 _).block k (by omega) (by simp; omega), hG5.block k (by have := hw4.size; omega) (by simp; omega), hw4.block k (by omega)]
                          exact n3 k h1 h2 h3
                        have hk : Keep (gF + 1) w2.heap.size w2 (w5.setCell ⟨bf, 0, none⟩ (.slice (some ⟨rf, 0, none⟩) (nf + 1) tot)) := fun k h1 h2 => hall k h2 (by omega) (by omega) (by omega) (by omega)
                        refine ⟨qs ++ [(z, .slice (some ⟨gM, 0, none⟩) Q Q)], ?_, own_block m2 (hall gF hgl (by omega) (by omega) (by omega) (by omega)), (m3.kept hk (by omega)).snoc (m1.kept hk (Nat.le_refl _) (by omega)), ?_, fun k h1 => ?_, by omega⟩
                        · rw [List.map_append, m6, List.take_add_one, HZZ.out]; rfl
                        · rw [← HGF.out.1, ← HGF.out.2.1]
                          rw [hq] at hO5 ⊢
                          exact hfa.pushF hO5 hG5
                        · rw [hall k (by omega) (by omega) (by omega) (by omega) (by omega)]
                          exact m5 k h1
                      have c20' : w5.cell? ⟨bf, 0, none⟩ = some (.slice (some ⟨rf, 0, none⟩) nf tot) := by
                        have hbk : Blk w5 bf 70 [.slice (some ⟨rf, 0, none⟩) FL.length tot] := (HP3.out.2.1.fb.alloc _).kept hG5 (by have := HP3.out.2.1.o; simp; omega)
                        rw [HNG.out.2]
                        exact hbk.cell 0
                      have f20' : w5.frozen? ⟨bf, 0, none⟩ = false := ((HP3.out.2.1.fb.alloc _).kept hG5 (by have := HP3.out.2.1.o; simp; omega)).frozen 0
                      clear hO5 hG5 hO20 c20 HP3 HR2 hs4
                      go_wp2
                      refine ⟨⟨f + 1, rfl, rfl, by omega, HP5⟩, by simp [intOf]; omega⟩
                · have hlt6' : ¬ (f : Int) < (K : Int) := by omega
                  obtain rfl : K = f := by omega
                  obtain ⟨qs, hqs, hown6, hdf, hfx6, hkp6, hgl6⟩ := HH6.out
                  have hql : qs.length = K := by
                    have := congrArg List.length hqs
                    rw [List.length_map, List.length_take] at this
                    have := HK.out
                    omega
                  have hfd : FamsL lo w6r.heap.size w6r (.slice (some ⟨gF, 0, none⟩) K K) g := fams_done hown6 hql (by rw [hqs, List.take_of_length_le (by have := HK.out; omega)]) hloF hdf
                  have HR6 : Hid (FamsL lo w6r.heap.size w6r (.slice (some ⟨gF, 0, none⟩) K K) g ∧ w6r.ownsRow 0 81 2 (.slice (some ⟨rp, 0, none⟩) j N) j (rowsG ps) ∧ DGrp lo w6r ps ∧ Fx w b4 b6 b7 mb sB rp rg bg rf bf (.slice (some ⟨b, o, none⟩) N c) mask tot (gis G (j + 1)) (fis G (j + 1)) w6r ∧ ps.map Prod.fst = G.take j) := by
                    obtain ⟨m1, m2, m3, m4, m5⟩ := HP6.out
                    refine ⟨hfd, own_block m2 (hkp6 rp (.inl rfl)), ?_, ?_, m1⟩
                    · refine m3.kept (fun k h1 h2 => ?_) (by omega)
                      rw [hkp6 k (.inr ⟨h1, by omega⟩)]
                      exact m4 k h1 (by omega)
                    · rw [gis, fis, HGD.out, HK.out]
                      exact hfx6
                  clear hqs hown6 hdf hfx6 hkp6 hgl6 hql hfd HH6
                  have hj3 : (j : Int) % 3 = ((j % 3 : Nat) : Int) := by omega
                  go_wp2_with (at_make; refine unhid ?_)
                  show wpList _ _ _ _ _ _
                  obtain ⟨i36, j36, z36, y36, x36⟩ := info_parts info36
                  refine wpList_make_full _ rfl (.tmp 186) (.tmp 186) 25 rfl 0 36 i36 _ 2 Yba.underlying25 j36 z36 y36 .i64 .i64 _ _ (j % 3) rfl rfl hj3 hj3 (by rw [x36]; omega) (by unfold maxLen; omega) (Nat.zero_le _) ?_
                  intro w7k hO7k hG7k
                  have b7k := below_of_none hG7k
                  obtain ⟨kb, hkb⟩ : ∃ kb, kb = w6r.heap.size := ⟨_, rfl⟩
                  rw [← hkb] at hO7k ⊢
                  have HR7k : Hid (FamsL lo w7k.heap.size w7k (.slice (some ⟨gF, 0, none⟩) K K) g ∧ w7k.ownsRow 0 81 2 (.slice (some ⟨rp, 0, none⟩) j N) j (rowsG ps) ∧ DGrp lo w7k ps ∧ Fx w b4 b6 b7 mb sB rp rg bg rf bf (.slice (some ⟨b, o, none⟩) N c) mask tot (gis G (j + 1)) (fis G (j + 1)) w7k ∧ ps.map Prod.fst = G.take j) := by
                    obtain ⟨m1, m2, m3, m4, m5⟩ := HR6.out
                    exact ⟨m1.kept (Keep.of_below b7k (Nat.le_refl _)) (Nat.le_refl _) b7k.size, own_block m2 (b7k.block rp (m2.lt rp rfl).2), m3.kept (Keep.of_below b7k (Nat.le_refl _)) b7k.size, m4.below b7k m4.fb.lt, m5⟩
                  clear hO7k hG7k b7k HR6 hkb hj3
                  obtain ⟨i81', j81', z81', y81', x81'⟩ := info_parts info81
                  go_wp2_with (at_builtin; refine unhid ?_)
                  show wpList _ _ _ _ _ _
                  have hb1 := Blk.new w7k 81 [.slice (some ⟨kb, 0, none⟩) (j % 3) (j % 3), .slice (some ⟨gF, 0, none⟩) K K]
                  refine wpList_append_fits _ rfl (.tmp 184) (.tmp 190) 69 rfl 0 81 i81' 2 Yba.underlying69 j81' y81' rp j N (rowsG ps) rfl (World.ownsRow.alloc HR7k.out.2.1 _) ⟨w7k.heap.size, 0, none⟩ 1 1 [.slice (some ⟨kb, 0, none⟩) (j % 3) (j % 3), .slice (some ⟨gF, 0, none⟩) K K] rfl rfl (fun jj u hu => by rw [Addr.add_mid, Nat.zero_add, hb1.cell jj]; exact hu) (by intro u hu; simp at hu; rcases hu with rfl | rfl <;> rfl) (by omega) ?_
                  intro w8k hO8k hG8k
                  have HE5 : Hid (∃ ps : List (List Zf × (Value × Value)), ps.map Prod.fst = G.take (j + 1) ∧ w8k.ownsRow 0 81 2 (.slice (some ⟨rp, 0, none⟩) (j + 1) N) (j + 1) (rowsG ps) ∧ DGrp lo w8k ps ∧ Fx w b4 b6 b7 mb sB rp rg bg rf bf (.slice (some ⟨b, o, none⟩) N c) mask tot (gis G (j + 1)) (fis G (j + 1)) w8k ∧ lo ≤ w8k.heap.size) := by
                    obtain ⟨m1, m2, m3, m4, m5⟩ := HR7k.out
                    have hw : Below w7k.heap.size w7k (w7k.alloc (.cells #[.slice (some ⟨kb, 0, none⟩) (j % 3) (j % 3), .slice (some ⟨gF, 0, none⟩) K K] 81)) := (Below.refl _ w7k).alloc (Nat.le_refl _) _
                    have ho := m4.o
                    have hk : Keep lo w7k.heap.size w7k w8k := (Keep.of_below hw (Nat.le_refl _)).trans (Keep.of_grown hG8k hw.size (fun k e => by cases e; omega))
                    have hs8 : w7k.heap.size ≤ w8k.heap.size := Nat.le_trans hw.size hG8k.size
                    have hpl : ps.length = j := by
                      have := congrArg List.length m5
                      rw [List.length_map, List.length_take] at this
                      have := HN.out
                      omega
                    refine ⟨ps ++ [(g, (.slice (some ⟨kb, 0, none⟩) (j % 3) (j % 3), .slice (some ⟨gF, 0, none⟩) K K))], ?_, ?_, (m3.kept hk hs8).snoc ⟨_, _, by rw [hpl]⟩ (m1.kept hk (Nat.le_refl _) hs8), (m4.below hw m4.fb.lt).grown hG8k (.inl rfl), by have := m4.fb.lt; omega⟩
                    · rw [List.map_append, m5, List.take_add_one, HG.out]; rfl
                    · have e9 : rowsG (ps ++ [(g, (.slice (some ⟨kb, 0, none⟩) (j % 3) (j % 3), .slice (some ⟨gF, 0, none⟩) K K))]) = rowsG ps ++ [.slice (some ⟨kb, 0, none⟩) (j % 3) (j % 3), .slice (some ⟨gF, 0, none⟩) K K] := by unfold rowsG; rw [List.map_append, List.flatten_append]; simp
                      rw [e9]
                      exact hO8k
                  clear hO8k hG8k hb1 HR7k
                  go_wp2
                  refine ⟨⟨j + 1, rfl, rfl, by omega, HE5⟩, by simp [intOf]; omega⟩
            · have hlt5' : ¬ (j : Int) < (N : Int) := by omega
              obtain rfl : N = j := by omega
              obtain ⟨ps, hps, hown, hdat, hfx, hlow⟩ := HH.out
              have hpl : ps.length = N := by
                have := congrArg List.length hps
                rw [List.length_map, List.length_take] at this
                have := HN.out
                omega
              have HGR : Hid (GrpsL 0 wr.heap.size wr (.slice (some ⟨rp, 0, none⟩) N N) G ∧ Fx w b4 b6 b7 mb sB rp rg bg rf bf (.slice a N c) mask tot (gis G N) (fis G N) wr) := ⟨grps_done hown hpl (by rw [hps, List.take_of_length_le (by have := HN.out; omega)]) hdat, hfx⟩
              have c7 : wr.cell? ⟨b7, 0, none⟩ = some (.int .i64 tot) := hfx.bx.t.cell 0
              have l7 : b7 < wr.heap.size := hfx.bx.t.lt
              clear hps hown hdat hfx hlow hpl HH
              obtain ⟨lim, hlim⟩ : ∃ lim : Nat, stop % ((tot : Int) + 2) = (lim : Int) := ⟨(stop % ((tot : Int) + 2)).toNat, by rw [Int.toNat_of_nonneg (Int.emod_nonneg _ (by omega))]⟩
              have hlm : lim < tot + 2 := by have := Int.emod_lt_of_pos stop (by omega : (0 : Int) < (tot : Int) + 2); omega
              by_cases hL0 : lim = 0
              · have hL0' : ((lim : Int) != 0) = false := by simp [hL0]
                have HL0 : Hid (lim = 0) := hL0
                clear hL0
                go_wp2
                obtain ⟨H, hH⟩ : ∃ H, H = wr.heap.size := ⟨_, rfl⟩
                obtain ⟨WR, hWR⟩ : ∃ WR, WR = (((wr.alloc (.cells #[.int .i64 (lim : Int)] 3)).alloc (.cells #[.int .i64 0] 3)).alloc (.cells #[.pointer (some ⟨sB, 0, none⟩)] 46)).alloc (.cells #[.slice (some ⟨rp, 0, none⟩) N N] 69) := ⟨_, rfl⟩
                have bR : Below wr.heap.size wr WR := by rw [hWR]; exact ((((Below.refl _ wr).alloc (Nat.le_refl _) _).alloc (by simp) _).alloc (by simp; omega) _).alloc (by simp; omega) _
                have HWR : Hid (Fx w b4 b6 b7 mb sB rp rg bg rf bf (.slice a N c) mask tot (gis G N) (fis G N) WR ∧ Blk WR H 3 [.int .i64 (lim : Int)] ∧ Blk WR (H + 1) 3 [.int .i64 ((0 : Nat) : Int)] ∧ Src H (H + 1 + 1 + 1) (H + 1 + 1) sB mb mask (.slice (some ⟨rp, 0, none⟩) N N) G WR ∧ WR.heap.size = H + 4 ∧ bf < H) := by
                  have k1 := Blk.new wr 3 [.int .i64 (lim : Int)]
                  have k2 := Blk.new (wr.alloc (.cells #[.int .i64 (lim : Int)] 3)) 3 [.int .i64 0]
                  have k3 := Blk.new ((wr.alloc (.cells #[.int .i64 (lim : Int)] 3)).alloc (.cells #[.int .i64 0] 3)) 46 [.pointer (some ⟨sB, 0, none⟩)]
                  have k4 := Blk.new (((wr.alloc (.cells #[.int .i64 (lim : Int)] 3)).alloc (.cells #[.int .i64 0] 3)).alloc (.cells #[.pointer (some ⟨sB, 0, none⟩)] 46)) 69 [.slice (some ⟨rp, 0, none⟩) N N]
                  simp only [World.size_alloc] at k2 k3 k4
                  have hfx := HGR.out.2.below bR HGR.out.2.fb.lt
                  rw [hH]
                  refine ⟨hfx, by rw [hWR]; exact ((k1.alloc _).alloc _).alloc _, by rw [hWR]; exact (k2.alloc _).alloc _, ⟨by rw [hWR]; exact k4, by rw [hWR]; exact k3.alloc _, hfx.st, hfx.mp, HGR.out.1.kept (Keep.of_below bR (Nat.le_refl _)) (Nat.le_refl _) (Nat.le_refl _)⟩, by rw [hWR]; simp, HGR.out.2.fb.lt⟩
                rw [← hWR, ← hH]
                clear hWR hH bR HGR c7 l7
                refine wp_rangeUpd (fun kv pv t => (((t.setIfInBounds 210 kv).setIfInBounds 211 pv).setIfInBounds 35 kv).setIfInBounds 36 pv) (gf := 16) (lb := #[.pointer (some ⟨H + 1 + 1 + 1, 0, none⟩), .pointer (some ⟨H + 1 + 1, 0, none⟩)]) rfl (enters_of Yba.func16 (by kernel_rfl) rfl) tot (H + 1) (by have := HWR.out; omega) (Given G mask) (fun i kv pv A l r o' h hl => Given.put i kv pv A l r o' h hl) ?hseqA rfl
                  (fun i W => Fx w b4 b6 b7 mb sB rp rg bg rf bf (.slice a N c) mask tot (gis G N) (fis G N) W ∧ Blk W H 3 [.int .i64 (lim : Int)] ∧ Blk W (H + 1) 3 [.int .i64 (i : Int)] ∧ (lim = 0 ∨ i < lim))
                  (fun cc i W => cc = .exit 16 ∧ Fx w b4 b6 b7 mb sB rp rg bg rf bf (.slice a N c) mask tot (gis G N) (fis G N) W ∧ Blk W H 3 [.int .i64 (lim : Int)] ∧ Blk W (H + 1) 3 [.int .i64 (i : Int)] ∧ lim ≠ 0 ∧ i = lim)
                  (fun i A B h hb => ⟨h.1.below hb (by have := HWR.out; omega), h.2.1.later hb (by have := HWR.out; omega), h.2.2.1.later hb (by have := HWR.out; omega), h.2.2.2⟩)
                  (fun cc i A B h hb => ⟨h.1, h.2.1.below hb (by have := HWR.out; omega), h.2.2.1.later hb (by have := HWR.out; omega), h.2.2.2.1.later hb (by have := HWR.out; omega), h.2.2.2.2⟩)
                  ⟨HWR.out.1, HWR.out.2.1, HWR.out.2.2.1, by omega⟩ ?assignA ?bodyA ?doneA ?stopA
                case hseqA =>
                  intro l J Jx W hsz hbW hJ hY h0
                  have hsr : Src H (H + 1 + 1 + 1) (H + 1 + 1) sB mb mask (.slice (some ⟨rp, 0, none⟩) N N) G W := HWR.out.2.2.2.1.keep (by have := HWR.out.1.o; have := HWR.out.2.2.2.2.2; omega) (by have := HWR.out.1.o; have := HWR.out.2.2.2.2.2; omega) (fun k hk => hbW.block k (by have := HWR.out.2.2.2.2.1; omega))
                  have h9 := iter_at H (H + 1 + 1 + 1) (H + 1 + 1) sB mb (H + 1) WR.heap.size mask (.slice (some ⟨rp, 0, none⟩) N N) G HF.out.1 (fun g hg => by
                      have h1 := HF.out.2.1
                      obtain ⟨l1, l2, e⟩ := List.append_of_mem hg
                      rw [e] at h1
                      simp at h1
                      omega) (fun g hg z hz => by
                      have hm : z ∈ G.flatten := List.mem_flatten.2 ⟨g, hg, hz⟩
                      have h1 := HF.out.2.2.1 z hm
                      have h2 : smp z.M ≤ 4096 := by
                        refine Nat.le_trans ?_ HF.out.2.2.2
                        obtain ⟨l1, l2, e⟩ := List.append_of_mem hm
                        rw [e]
                        simp [smps]
                        omega
                      unfold smp at h2
                      omega) (by omega) (by have := HWR.out.2.2.2.2.1; omega) (by have := HWR.out.2.2.2.2.1; omega) (by have := HWR.out.2.2.2.2.1; omega) (by omega) (by omega) (by have := HWR.out.1.o; have := HWR.out.2.2.2.2.2; omega) (by have := HWR.out.1.o; have := HWR.out.2.2.2.2.2; omega) l J Jx W hsz hsr hJ (by rw [← HTO.out]; exact hY) h0
                  rw [← HTO.out] at h9
                  simpa using h9
                case assignA =>
                  intro l kv pv W K hK
                  simp only [List.zip_toArray, List.zip_cons_cons, List.zip_nil_right, List.zip_nil_left, List.size_toArray, List.foldl_toArray', List.foldl_cons, List.foldl_nil, List.setIfInBounds_toArray, List.set_cons_succ, List.set_cons_zero] at hK ⊢
                  gi_wp2
                  exact hK
                case bodyA =>
                  rintro l i kv pv W ⟨hfx, hbl, hbc, hlt⟩ hi ⟨j, g, f, z, hj, hf, hij, ⟨kp, kc, hkv⟩, pk, nk, capk, cs, q, qc, rfl, hpl, hcs, hpc⟩
                  obtain ⟨q3, hq3⟩ : ∃ q3, q3 = j % 3 := ⟨_, rfl⟩
                  have hj3 : (j : Int) % 3 = (q3 : Int) := by omega
                  rw [← hq3] at hkv
                  subst hkv
                  clear hq3
                  simp only [List.setIfInBounds_toArray, List.set_cons_succ, List.set_cons_zero]
                  have c34 : W.cell? ⟨H + 1, 0, none⟩ = some (.int .i64 (i : Int)) := hbc.cell 0
                  have f34 : W.frozen? ⟨H + 1, 0, none⟩ = false := hbc.frozen 0
                  have c32 : W.cell? ⟨H, 0, none⟩ = some (.int .i64 (lim : Int)) := hbl.cell 0
                  have c7 : W.cell? ⟨b7, 0, none⟩ = some (.int .i64 tot) := hfx.bx.t.cell 0
                  have c3 : W.cell? ⟨w.heap.size, 0, none⟩ = some (.slice a N c) := hfx.bx.g.cell 0
                  have c4 : W.cell? ⟨b4, 0, none⟩ = some (.int .u8 mask) := hfx.bx.m.cell 0
                  have hgln : (gis G N).length = tot := by rw [gis_len G N (by have := HN.out; omega), List.take_of_length_le (by have := HN.out; omega), HTO.out]
                  have hfln : (fis G N).length = tot := by rw [fis_len G N (by have := HN.out; omega), List.take_of_length_le (by have := HN.out; omega), HTO.out]
                  have hjl : j < N := by have := (List.getElem?_eq_some_iff.1 hj).1; have := HN.out; omega
                  have hga := gis_at G j f g hj (List.getElem?_eq_some_iff.1 hf).1 N hjl (by have := HN.out; omega)
                  rw [← hij] at hga
                  have hcg : W.cell? ⟨rg, i, none⟩ = some (.int .i64 (j : Int)) := by
                    have h1 := hfx.gr.cellAt i (by rw [hgln]; omega)
                    rw [h1]
                    unfold ints
                    rw [List.getElem?_map, hga.1]
                    rfl
                  have hcf : W.cell? ⟨rf, i, none⟩ = some (.int .i64 (f : Int)) := by
                    have h1 := hfx.fr.cellAt i (by rw [hfln]; omega)
                    rw [h1]
                    unfold ints
                    rw [List.getElem?_map, hga.2]
                    rfl
                  have c19 : W.cell? ⟨bg, 0, none⟩ = some (.slice (some ⟨rg, 0, none⟩) tot tot) := by rw [hfx.gb.cell 0, hgln]; rfl
                  have c20 : W.cell? ⟨bf, 0, none⟩ = some (.slice (some ⟨rf, 0, none⟩) tot tot) := by rw [hfx.fb.cell 0, hfln]; rfl
                  obtain ⟨b, o, e0, _, hblt, hget⟩ := SubL.get (HBi.out W hfx.bx.b) (by have := HN.out; omega)
                  subst e0
                  obtain ⟨x, hfam, hcell⟩ := hget j g hj
                  obtain ⟨fp, fc, rfl⟩ := SubL.form hfam
                  have d0 : W.cell? ⟨b, o + j, none⟩ = some (.slice fp g.length fc) := by
                    have := hcell 0 _ rfl
                    rw [Nat.mul_one, Nat.add_zero] at this
                    exact this
                  have hfl : f < g.length := (List.getElem?_eq_some_iff.1 hf).1
                  obtain ⟨fb, fo, e0, _, hfblt, hgetf⟩ := SubL.get hfam (by omega)
                  subst e0
                  obtain ⟨mv, ⟨hmet, hk0, hk1⟩, hcellf⟩ := hgetf f z hf
                  obtain ⟨mp, mc, rfl⟩ := SubL.form hmet
                  have g0 : W.cell? ⟨fb, fo + f * 3, none⟩ = _ := hcellf 0 _ rfl
                  have g1 : W.cell? ⟨fb, fo + f * 3 + 1, none⟩ = _ := hcellf 1 _ rfl
                  have g2 : W.cell? ⟨fb, fo + f * 3 + 2, none⟩ = _ := hcellf 2 _ rfl
                  have hzl : z.M.flatten.length ≤ 4096 ∧ z.M.length ≤ 4096 := by
                    have hm : z ∈ G.flatten := List.mem_flatten.2 ⟨g, List.mem_of_getElem? hj, List.mem_of_getElem? hf⟩
                    have h1 := HF.out.2.2.1 z hm
                    have h2 : smp z.M ≤ 4096 := by
                      refine Nat.le_trans ?_ HF.out.2.2.2
                      obtain ⟨l1, l2, e⟩ := List.append_of_mem hm
                      rw [e]
                      simp [smps]
                      omega
                    unfold smp at h2
                    omega
                  have HCK : Hid (∀ p : Later W, Calls Yba.prog 13 #[.agg #[.int .u8 z.k, .bool z.c, .slice mp z.M.length mc], .int .u8 mask, .slice (some ⟨pk, 0, none⟩) nk capk] p.w fun e w' => e = .returned (.bool true) ∧ Below W.heap.size W w') := fun p => by
                    have hsw : w.heap.size ≤ W.heap.size := hfx.bx.b.size
                    refine (check_at z.c z.k mask q qc z.M mp mc pk nk capk cs p.w hk0 hk1 hm0 hm1 (hmet.kept (fun k _ hk => p.h.block k (by omega)) (Nat.le_refl _) (Nat.le_trans hsw p.h.size)) hzl.1 hzl.2 (Nat.lt_of_lt_of_le hpl p.h.size) (fun jj u hu => by rw [p.h.cell (p := ⟨pk, jj, none⟩) hpl]; exact hcs jj u hu) hpc).mono ?_
                    rintro e w' ⟨h1, h2⟩
                    exact ⟨h1, p.h.trans (h2.mono p.h.size)⟩
                  have HST : Hid (Fx w b4 b6 b7 mb sB rp rg bg rf bf (.slice (some ⟨b, o, none⟩) N c) mask tot (gis G N) (fis G N) W ∧ Blk W H 3 [.int .i64 (lim : Int)] ∧ Blk W (H + 1) 3 [.int .i64 (i : Int)] ∧ (lim = 0 ∨ i < lim)) := ⟨hfx, hbl, hbc, hlt⟩
                  have hi' : (i : Int) < (tot : Int) := by omega
                  have hjn' : (j : Int) < (N : Int) := by omega
                  obtain ⟨K, hK⟩ : ∃ K, K = g.length := ⟨_, rfl⟩
                  rw [← hK] at d0 hfl
                  have hfl' : (f : Int) < (K : Int) := by omega
                  have hmx : Yba.prog.follows .mixedOrders = true := by kernel_rfl
                  clear hfx hbl hbc hlt hpl hcs hpc hgln hfln hga hcell hget hfam hgetf hcellf hmet hK hzl hij
                  gi_wp2
                  have hN : Nonempty (Later W) := ⟨⟨W, Below.refl _ _⟩⟩
                  have e3 : ∀ p : Later W, p.w.cell? ⟨w.heap.size, 0, none⟩ = some (.slice (some ⟨b, o, none⟩) N c) := fun p => by rw [p.h.cell (p := ⟨w.heap.size, 0, none⟩) HST.out.1.bx.g.lt]; exact c3
                  have e4 : ∀ p : Later W, p.w.cell? ⟨b4, 0, none⟩ = some (.int .u8 mask) := fun p => by rw [p.h.cell (p := ⟨b4, 0, none⟩) HST.out.1.bx.m.lt]; exact c4
                  have hWs : w.heap.size ≤ W.heap.size := HST.out.1.bx.b.size
                  have ed : ∀ p : Later W, p.w.cell? ⟨b, o + j, none⟩ = some (.slice (some ⟨fb, fo, none⟩) K fc) := fun p => by rw [p.h.cell (p := ⟨b, o + j, none⟩) (by show b < W.heap.size; omega)]; exact d0
                  have eg0 : ∀ p : Later W, p.w.cell? ⟨fb, fo + f * 3, none⟩ = some (.int .u8 z.k) := fun p => by rw [p.h.cell (p := ⟨fb, fo + f * 3, none⟩) (by show fb < W.heap.size; omega)]; exact g0
                  have eg1 : ∀ p : Later W, p.w.cell? ⟨fb, fo + f * 3 + 1, none⟩ = some (.bool z.c) := fun p => by rw [p.h.cell (p := ⟨fb, fo + f * 3 + 1, none⟩) (by show fb < W.heap.size; omega)]; exact g1
                  have eg2 : ∀ p : Later W, p.w.cell? ⟨fb, fo + f * 3 + 2, none⟩ = some (.slice mp z.M.length mc) := fun p => by rw [p.h.cell (p := ⟨fb, fo + f * 3 + 2, none⟩) (by show fb < W.heap.size; omega)]; exact g2
                  refine wpIn_region_later_round (by kernel_rfl) (by kernel_rfl) (by kernel_rfl) ?_
                  iterate 9 (go_big_quiet_step (fail))
                  go_big_quiet_want
                  go_big_quiet_op
                  refine ⟨_, fun p => calls_later (HCK.out p), ?_⟩
                  go_big_quiet_on
                  go_big_quiet_step (fail)
                  refine wpQuiet_nil ?_
                  rintro w5 ⟨⟨w5x, hb5⟩, rfl⟩
                  clear e3 e4 ed eg0 eg1 eg2 hN
                  have HS5 : Hid (Fx w b4 b6 b7 mb sB rp rg bg rf bf (.slice (some ⟨b, o, none⟩) N c) mask tot (gis G N) (fis G N) (w5.setCell ⟨H + 1, 0, none⟩ (.int .i64 ((i : Int) + 1))) ∧ Blk (w5.setCell ⟨H + 1, 0, none⟩ (.int .i64 ((i : Int) + 1))) H 3 [.int .i64 (lim : Int)] ∧ Blk (w5.setCell ⟨H + 1, 0, none⟩ (.int .i64 ((i : Int) + 1))) (H + 1) 3 [.int .i64 ((i + 1 : Nat) : Int)] ∧ KeepX (· = H + 1) W (w5.setCell ⟨H + 1, 0, none⟩ (.int .i64 ((i : Int) + 1)))) := by
                    obtain ⟨q1, q2, q3, q4⟩ := HST.out
                    have gs := grownBy_setCell w5 (H + 1) 0 (.int .i64 ((i : Int) + 1))
                    have hbH : bf < H := HWR.out.2.2.2.2.2
                    exact ⟨(q1.below hb5 q1.fb.lt).grown gs (.inr (by omega)), (q2.on hb5).kept gs (by simp), (q3.on hb5).stored 0 _, ⟨by have := gs.size; have := hb5.size; omega, fun k hk hn => (gs.block k (by have := hb5.size; omega) (by simp; omega)).trans (hb5.block k hk)⟩⟩
                  have c34' : w5.cell? ⟨H + 1, 0, none⟩ = some (.int .i64 (i : Int)) := (HST.out.2.2.1.on hb5).cell 0
                  have f34' : w5.frozen? ⟨H + 1, 0, none⟩ = false := (HST.out.2.2.1.on hb5).frozen 0
                  have c32' : w5.cell? ⟨H, 0, none⟩ = some (.int .i64 (lim : Int)) := (HST.out.2.1.on hb5).cell 0
                  have HLT : Hid (lim = 0 ∨ i < lim) := HST.out.2.2.2
                  have hne : ¬ H = H + 1 := by omega
                  have hil : i ≤ 1024 := by omega
                  clear HST hb5 c34 f34 c32 c7 c3 c4 hcg hcf c19 c20 d0 g0 g1 g2 HCK
                  gi_wp2
                  exact ⟨HS5.out.2.2.2, HS5.out.1, HS5.out.2.1, HS5.out.2.2.1, .inl HL0.out⟩
                case doneA =>
                  rintro W ⟨hfx, hbl, hbc, hlt⟩ hK
                  have c34 : W.cell? ⟨H + 1, 0, none⟩ = some (.int .i64 (tot : Int)) := hbc.cell 0
                  have c6 : W.cell? ⟨b6, 0, none⟩ = some (.bool false) := hfx.bx.r.cell 0
                  have f6 : W.frozen? ⟨b6, 0, none⟩ = false := hfx.bx.r.frozen 0
                  have HX : Hid (Fx w b4 b6 b7 mb sB rp rg bg rf bf (.slice a N c) mask tot (gis G N) (fis G N) W ∧ W.heap[WR.heap.size]? = some (.deferred (some []))) := ⟨hfx, hK⟩
                  clear hfx hbl hbc hlt hK
                  repeat go_step
                  exact fin4 w _ WR.heap.size b6 _ rfl (HX.out.1.bx.ret (.bool true)).2 (by rw [(grownBy_setCell W b6 0 (.bool true)).block WR.heap.size (Array.getElem?_eq_some_iff.1 HX.out.2).1 (by have := HX.out.1.o; have := HX.out.1.bx.o; have := HWR.out.2.2.2.2; simp; omega)]; exact HX.out.2) (HX.out.1.bx.ret (.bool true)).1 (by have := HX.out.1.o; have := HX.out.1.bx.o; have := HWR.out.2.2.2.2; omega) (by have := HX.out.1.o; have := HX.out.1.bx.o; have := HWR.out.2.2.2.2; omega)
                case stopA =>
                  rintro cc i W hiN ⟨rfl, hfx, hbl, hbc, hl0, hil⟩ hK
                  exact absurd HL0.out hl0
              · have hL0' : ((lim : Int) != 0) = true := by simp; omega
                have hL0'' : ¬ (lim : Int) = 0 := by omega
                by_cases hL1 : lim < tot
                · have hL1' : (lim : Int) < (tot : Int) := by omega
                  go_wp2
                  obtain ⟨H, hH⟩ : ∃ H, H = wr.heap.size := ⟨_, rfl⟩
                  obtain ⟨WR, hWR⟩ : ∃ WR, WR = (((wr.alloc (.cells #[.int .i64 (lim : Int)] 3)).alloc (.cells #[.int .i64 0] 3)).alloc (.cells #[.pointer (some ⟨sB, 0, none⟩)] 46)).alloc (.cells #[.slice (some ⟨rp, 0, none⟩) N N] 69) := ⟨_, rfl⟩
                  have bR : Below wr.heap.size wr WR := by rw [hWR]; exact ((((Below.refl _ wr).alloc (Nat.le_refl _) _).alloc (by simp) _).alloc (by simp; omega) _).alloc (by simp; omega) _
                  have HWR : Hid (Fx w b4 b6 b7 mb sB rp rg bg rf bf (.slice a N c) mask tot (gis G N) (fis G N) WR ∧ Blk WR H 3 [.int .i64 (lim : Int)] ∧ Blk WR (H + 1) 3 [.int .i64 ((0 : Nat) : Int)] ∧ Src H (H + 1 + 1 + 1) (H + 1 + 1) sB mb mask (.slice (some ⟨rp, 0, none⟩) N N) G WR ∧ WR.heap.size = H + 4 ∧ bf < H) := by
                    have k1 := Blk.new wr 3 [.int .i64 (lim : Int)]
                    have k2 := Blk.new (wr.alloc (.cells #[.int .i64 (lim : Int)] 3)) 3 [.int .i64 0]
                    have k3 := Blk.new ((wr.alloc (.cells #[.int .i64 (lim : Int)] 3)).alloc (.cells #[.int .i64 0] 3)) 46 [.pointer (some ⟨sB, 0, none⟩)]
                    have k4 := Blk.new (((wr.alloc (.cells #[.int .i64 (lim : Int)] 3)).alloc (.cells #[.int .i64 0] 3)).alloc (.cells #[.pointer (some ⟨sB, 0, none⟩)] 46)) 69 [.slice (some ⟨rp, 0, none⟩) N N]
                    simp only [World.size_alloc] at k2 k3 k4
                    have hfx := HGR.out.2.below bR HGR.out.2.fb.lt
                    rw [hH]
                    refine ⟨hfx, by rw [hWR]; exact ((k1.alloc _).alloc _).alloc _, by rw [hWR]; exact (k2.alloc _).alloc _, ⟨by rw [hWR]; exact k4, by rw [hWR]; exact k3.alloc _, hfx.st, hfx.mp, HGR.out.1.kept (Keep.of_below bR (Nat.le_refl _)) (Nat.le_refl _) (Nat.le_refl _)⟩, by rw [hWR]; simp, HGR.out.2.fb.lt⟩
                  rw [← hWR, ← hH]
                  clear hWR hH bR HGR c7 l7
                  refine wp_rangeUpd (fun kv pv t => (((t.setIfInBounds 210 kv).setIfInBounds 211 pv).setIfInBounds 35 kv).setIfInBounds 36 pv) (gf := 16) (lb := #[.pointer (some ⟨H + 1 + 1 + 1, 0, none⟩), .pointer (some ⟨H + 1 + 1, 0, none⟩)]) rfl (enters_of Yba.func16 (by kernel_rfl) rfl) tot (H + 1) (by have := HWR.out; omega) (Given G mask) (fun i kv pv A l r o' h hl => Given.put i kv pv A l r o' h hl) ?hseqB rfl
                    (fun i W => Fx w b4 b6 b7 mb sB rp rg bg rf bf (.slice a N c) mask tot (gis G N) (fis G N) W ∧ Blk W H 3 [.int .i64 (lim : Int)] ∧ Blk W (H + 1) 3 [.int .i64 (i : Int)] ∧ (lim = 0 ∨ i < lim))
                    (fun cc i W => cc = .exit 16 ∧ Fx w b4 b6 b7 mb sB rp rg bg rf bf (.slice a N c) mask tot (gis G N) (fis G N) W ∧ Blk W H 3 [.int .i64 (lim : Int)] ∧ Blk W (H + 1) 3 [.int .i64 (i : Int)] ∧ lim ≠ 0 ∧ i = lim)
                    (fun i A B h hb => ⟨h.1.below hb (by have := HWR.out; omega), h.2.1.later hb (by have := HWR.out; omega), h.2.2.1.later hb (by have := HWR.out; omega), h.2.2.2⟩)
                    (fun cc i A B h hb => ⟨h.1, h.2.1.below hb (by have := HWR.out; omega), h.2.2.1.later hb (by have := HWR.out; omega), h.2.2.2.1.later hb (by have := HWR.out; omega), h.2.2.2.2⟩)
                    ⟨HWR.out.1, HWR.out.2.1, HWR.out.2.2.1, by omega⟩ ?assignB ?bodyB ?doneB ?stopB
                  case hseqB =>
                    intro l J Jx W hsz hbW hJ hY h0
                    have hsr : Src H (H + 1 + 1 + 1) (H + 1 + 1) sB mb mask (.slice (some ⟨rp, 0, none⟩) N N) G W := HWR.out.2.2.2.1.keep (by have := HWR.out.1.o; have := HWR.out.2.2.2.2.2; omega) (by have := HWR.out.1.o; have := HWR.out.2.2.2.2.2; omega) (fun k hk => hbW.block k (by have := HWR.out.2.2.2.2.1; omega))
                    have h9 := iter_at H (H + 1 + 1 + 1) (H + 1 + 1) sB mb (H + 1) WR.heap.size mask (.slice (some ⟨rp, 0, none⟩) N N) G HF.out.1 (fun g hg => by
                        have h1 := HF.out.2.1
                        obtain ⟨l1, l2, e⟩ := List.append_of_mem hg
                        rw [e] at h1
                        simp at h1
                        omega) (fun g hg z hz => by
                        have hm : z ∈ G.flatten := List.mem_flatten.2 ⟨g, hg, hz⟩
                        have h1 := HF.out.2.2.1 z hm
                        have h2 : smp z.M ≤ 4096 := by
                          refine Nat.le_trans ?_ HF.out.2.2.2
                          obtain ⟨l1, l2, e⟩ := List.append_of_mem hm
                          rw [e]
                          simp [smps]
                          omega
                        unfold smp at h2
                        omega) (by omega) (by have := HWR.out.2.2.2.2.1; omega) (by have := HWR.out.2.2.2.2.1; omega) (by have := HWR.out.2.2.2.2.1; omega) (by omega) (by omega) (by have := HWR.out.1.o; have := HWR.out.2.2.2.2.2; omega) (by have := HWR.out.1.o; have := HWR.out.2.2.2.2.2; omega) l J Jx W hsz hsr hJ (by rw [← HTO.out]; exact hY) h0
                    rw [← HTO.out] at h9
                    simpa using h9
                  case assignB =>
                    intro l kv pv W K hK
                    simp only [List.zip_toArray, List.zip_cons_cons, List.zip_nil_right, List.zip_nil_left, List.size_toArray, List.foldl_toArray', List.foldl_cons, List.foldl_nil, List.setIfInBounds_toArray, List.set_cons_succ, List.set_cons_zero] at hK ⊢
                    gi_wp2
                    exact hK
                  case bodyB =>
                    rintro l i kv pv W ⟨hfx, hbl, hbc, hlt⟩ hi ⟨j, g, f, z, hj, hf, hij, ⟨kp, kc, hkv⟩, pk, nk, capk, cs, q, qc, rfl, hpl, hcs, hpc⟩
                    obtain ⟨q3, hq3⟩ : ∃ q3, q3 = j % 3 := ⟨_, rfl⟩
                    have hj3 : (j : Int) % 3 = (q3 : Int) := by omega
                    rw [← hq3] at hkv
                    subst hkv
                    clear hq3
                    simp only [List.setIfInBounds_toArray, List.set_cons_succ, List.set_cons_zero]
                    have c34 : W.cell? ⟨H + 1, 0, none⟩ = some (.int .i64 (i : Int)) := hbc.cell 0
                    have f34 : W.frozen? ⟨H + 1, 0, none⟩ = false := hbc.frozen 0
                    have c32 : W.cell? ⟨H, 0, none⟩ = some (.int .i64 (lim : Int)) := hbl.cell 0
                    have c7 : W.cell? ⟨b7, 0, none⟩ = some (.int .i64 tot) := hfx.bx.t.cell 0
                    have c3 : W.cell? ⟨w.heap.size, 0, none⟩ = some (.slice a N c) := hfx.bx.g.cell 0
                    have c4 : W.cell? ⟨b4, 0, none⟩ = some (.int .u8 mask) := hfx.bx.m.cell 0
                    have hgln : (gis G N).length = tot := by rw [gis_len G N (by have := HN.out; omega), List.take_of_length_le (by have := HN.out; omega), HTO.out]
                    have hfln : (fis G N).length = tot := by rw [fis_len G N (by have := HN.out; omega), List.take_of_length_le (by have := HN.out; omega), HTO.out]
                    have hjl : j < N := by have := (List.getElem?_eq_some_iff.1 hj).1; have := HN.out; omega
                    have hga := gis_at G j f g hj (List.getElem?_eq_some_iff.1 hf).1 N hjl (by have := HN.out; omega)
                    rw [← hij] at hga
                    have hcg : W.cell? ⟨rg, i, none⟩ = some (.int .i64 (j : Int)) := by
                      have h1 := hfx.gr.cellAt i (by rw [hgln]; omega)
                      rw [h1]
                      unfold ints
                      rw [List.getElem?_map, hga.1]
                      rfl
                    have hcf : W.cell? ⟨rf, i, none⟩ = some (.int .i64 (f : Int)) := by
                      have h1 := hfx.fr.cellAt i (by rw [hfln]; omega)
                      rw [h1]
                      unfold ints
                      rw [List.getElem?_map, hga.2]
                      rfl
                    have c19 : W.cell? ⟨bg, 0, none⟩ = some (.slice (some ⟨rg, 0, none⟩) tot tot) := by rw [hfx.gb.cell 0, hgln]; rfl
                    have c20 : W.cell? ⟨bf, 0, none⟩ = some (.slice (some ⟨rf, 0, none⟩) tot tot) := by rw [hfx.fb.cell 0, hfln]; rfl
                    obtain ⟨b, o, e0, _, hblt, hget⟩ := SubL.get (HBi.out W hfx.bx.b) (by have := HN.out; omega)
                    subst e0
                    obtain ⟨x, hfam, hcell⟩ := hget j g hj
                    obtain ⟨fp, fc, rfl⟩ := SubL.form hfam
                    have d0 : W.cell? ⟨b, o + j, none⟩ = some (.slice fp g.length fc) := by
                      have := hcell 0 _ rfl
                      rw [Nat.mul_one, Nat.add_zero] at this
                      exact this
                    have hfl : f < g.length := (List.getElem?_eq_some_iff.1 hf).1
                    obtain ⟨fb, fo, e0, _, hfblt, hgetf⟩ := SubL.get hfam (by omega)
                    subst e0
                    obtain ⟨mv, ⟨hmet, hk0, hk1⟩, hcellf⟩ := hgetf f z hf
                    obtain ⟨mp, mc, rfl⟩ := SubL.form hmet
                    have g0 : W.cell? ⟨fb, fo + f * 3, none⟩ = _ := hcellf 0 _ rfl
                    have g1 : W.cell? ⟨fb, fo + f * 3 + 1, none⟩ = _ := hcellf 1 _ rfl
                    have g2 : W.cell? ⟨fb, fo + f * 3 + 2, none⟩ = _ := hcellf 2 _ rfl
                    have hzl : z.M.flatten.length ≤ 4096 ∧ z.M.length ≤ 4096 := by
                      have hm : z ∈ G.flatten := List.mem_flatten.2 ⟨g, List.mem_of_getElem? hj, List.mem_of_getElem? hf⟩
                      have h1 := HF.out.2.2.1 z hm
                      have h2 : smp z.M ≤ 4096 := by
                        refine Nat.le_trans ?_ HF.out.2.2.2
                        obtain ⟨l1, l2, e⟩ := List.append_of_mem hm
                        rw [e]
                        simp [smps]
                        omega
                      unfold smp at h2
                      omega
                    have HCK : Hid (∀ p : Later W, Calls Yba.prog 13 #[.agg #[.int .u8 z.k, .bool z.c, .slice mp z.M.length mc], .int .u8 mask, .slice (some ⟨pk, 0, none⟩) nk capk] p.w fun e w' => e = .returned (.bool true) ∧ Below W.heap.size W w') := fun p => by
                      have hsw : w.heap.size ≤ W.heap.size := hfx.bx.b.size
                      refine (check_at z.c z.k mask q qc z.M mp mc pk nk capk cs p.w hk0 hk1 hm0 hm1 (hmet.kept (fun k _ hk => p.h.block k (by omega)) (Nat.le_refl _) (Nat.le_trans hsw p.h.size)) hzl.1 hzl.2 (Nat.lt_of_lt_of_le hpl p.h.size) (fun jj u hu => by rw [p.h.cell (p := ⟨pk, jj, none⟩) hpl]; exact hcs jj u hu) hpc).mono ?_
                      rintro e w' ⟨h1, h2⟩
                      exact ⟨h1, p.h.trans (h2.mono p.h.size)⟩
                    have HST : Hid (Fx w b4 b6 b7 mb sB rp rg bg rf bf (.slice (some ⟨b, o, none⟩) N c) mask tot (gis G N) (fis G N) W ∧ Blk W H 3 [.int .i64 (lim : Int)] ∧ Blk W (H + 1) 3 [.int .i64 (i : Int)] ∧ (lim = 0 ∨ i < lim)) := ⟨hfx, hbl, hbc, hlt⟩
                    have hi' : (i : Int) < (tot : Int) := by omega
                    have hjn' : (j : Int) < (N : Int) := by omega
                    obtain ⟨K, hK⟩ : ∃ K, K = g.length := ⟨_, rfl⟩
                    rw [← hK] at d0 hfl
                    have hfl' : (f : Int) < (K : Int) := by omega
                    have hmx : Yba.prog.follows .mixedOrders = true := by kernel_rfl
                    clear hfx hbl hbc hlt hpl hcs hpc hgln hfln hga hcell hget hfam hgetf hcellf hmet hK hzl hij
                    gi_wp2
                    have hN : Nonempty (Later W) := ⟨⟨W, Below.refl _ _⟩⟩
                    have e3 : ∀ p : Later W, p.w.cell? ⟨w.heap.size, 0, none⟩ = some (.slice (some ⟨b, o, none⟩) N c) := fun p => by rw [p.h.cell (p := ⟨w.heap.size, 0, none⟩) HST.out.1.bx.g.lt]; exact c3
                    have e4 : ∀ p : Later W, p.w.cell? ⟨b4, 0, none⟩ = some (.int .u8 mask) := fun p => by rw [p.h.cell (p := ⟨b4, 0, none⟩) HST.out.1.bx.m.lt]; exact c4
                    have hWs : w.heap.size ≤ W.heap.size := HST.out.1.bx.b.size
                    have ed : ∀ p : Later W, p.w.cell? ⟨b, o + j, none⟩ = some (.slice (some ⟨fb, fo, none⟩) K fc) := fun p => by rw [p.h.cell (p := ⟨b, o + j, none⟩) (by show b < W.heap.size; omega)]; exact d0
                    have eg0 : ∀ p : Later W, p.w.cell? ⟨fb, fo + f * 3, none⟩ = some (.int .u8 z.k) := fun p => by rw [p.h.cell (p := ⟨fb, fo + f * 3, none⟩) (by show fb < W.heap.size; omega)]; exact g0
                    have eg1 : ∀ p : Later W, p.w.cell? ⟨fb, fo + f * 3 + 1, none⟩ = some (.bool z.c) := fun p => by rw [p.h.cell (p := ⟨fb, fo + f * 3 + 1, none⟩) (by show fb < W.heap.size; omega)]; exact g1
                    have eg2 : ∀ p : Later W, p.w.cell? ⟨fb, fo + f * 3 + 2, none⟩ = some (.slice mp z.M.length mc) := fun p => by rw [p.h.cell (p := ⟨fb, fo + f * 3 + 2, none⟩) (by show fb < W.heap.size; omega)]; exact g2
                    refine wpIn_region_later_round (by kernel_rfl) (by kernel_rfl) (by kernel_rfl) ?_
                    iterate 9 (go_big_quiet_step (fail))
                    go_big_quiet_want
                    go_big_quiet_op
                    refine ⟨_, fun p => calls_later (HCK.out p), ?_⟩
                    go_big_quiet_on
                    go_big_quiet_step (fail)
                    refine wpQuiet_nil ?_
                    rintro w5 ⟨⟨w5x, hb5⟩, rfl⟩
                    clear e3 e4 ed eg0 eg1 eg2 hN
                    have HS5 : Hid (Fx w b4 b6 b7 mb sB rp rg bg rf bf (.slice (some ⟨b, o, none⟩) N c) mask tot (gis G N) (fis G N) (w5.setCell ⟨H + 1, 0, none⟩ (.int .i64 ((i : Int) + 1))) ∧ Blk (w5.setCell ⟨H + 1, 0, none⟩ (.int .i64 ((i : Int) + 1))) H 3 [.int .i64 (lim : Int)] ∧ Blk (w5.setCell ⟨H + 1, 0, none⟩ (.int .i64 ((i : Int) + 1))) (H + 1) 3 [.int .i64 ((i + 1 : Nat) : Int)] ∧ KeepX (· = H + 1) W (w5.setCell ⟨H + 1, 0, none⟩ (.int .i64 ((i : Int) + 1)))) := by
                      obtain ⟨q1, q2, q3, q4⟩ := HST.out
                      have gs := grownBy_setCell w5 (H + 1) 0 (.int .i64 ((i : Int) + 1))
                      have hbH : bf < H := HWR.out.2.2.2.2.2
                      exact ⟨(q1.below hb5 q1.fb.lt).grown gs (.inr (by omega)), (q2.on hb5).kept gs (by simp), (q3.on hb5).stored 0 _, ⟨by have := gs.size; have := hb5.size; omega, fun k hk hn => (gs.block k (by have := hb5.size; omega) (by simp; omega)).trans (hb5.block k hk)⟩⟩
                    have c34' : w5.cell? ⟨H + 1, 0, none⟩ = some (.int .i64 (i : Int)) := (HST.out.2.2.1.on hb5).cell 0
                    have f34' : w5.frozen? ⟨H + 1, 0, none⟩ = false := (HST.out.2.2.1.on hb5).frozen 0
                    have c32' : w5.cell? ⟨H, 0, none⟩ = some (.int .i64 (lim : Int)) := (HST.out.2.1.on hb5).cell 0
                    have HLT : Hid (lim = 0 ∨ i < lim) := HST.out.2.2.2
                    have hne : ¬ H = H + 1 := by omega
                    have hil : i ≤ 1024 := by omega
                    clear HST hb5 c34 f34 c32 c7 c3 c4 hcg hcf c19 c20 d0 g0 g1 g2 HCK
                    by_cases he : i + 1 = lim
                    · have he' : ((i : Int) + 1 == (lim : Int)) = true := by simp; omega
                      gi_wp2
                      exact ⟨HS5.out.2.2.2, rfl, HS5.out.1, HS5.out.2.1, HS5.out.2.2.1, hL0, he⟩
                    · have he' : ((i : Int) + 1 == (lim : Int)) = false := by simp; omega
                      gi_wp2
                      exact ⟨HS5.out.2.2.2, HS5.out.1, HS5.out.2.1, HS5.out.2.2.1, .inr (by have := HLT.out; omega)⟩
                  case doneB =>
                    rintro W ⟨hfx, hbl, hbc, hlt⟩ hK
                    exfalso
                    omega
                  case stopB =>
                    rintro cc i W hiN ⟨rfl, hfx, hbl, hbc, hl0, hil⟩ hK
                    subst hil
                    have c34 : W.cell? ⟨H + 1, 0, none⟩ = some (.int .i64 (i : Int)) := hbc.cell 0
                    have c6 : W.cell? ⟨b6, 0, none⟩ = some (.bool false) := hfx.bx.r.cell 0
                    have f6 : W.frozen? ⟨b6, 0, none⟩ = false := hfx.bx.r.frozen 0
                    have HX : Hid (Fx w b4 b6 b7 mb sB rp rg bg rf bf (.slice a N c) mask tot (gis G N) (fis G N) W ∧ W.heap[WR.heap.size]? = some (.deferred (some []))) := ⟨hfx, hK⟩
                    clear hfx hbl hbc hl0 hK
                    repeat go_step
                    exact fin4 w _ WR.heap.size b6 _ rfl (HX.out.1.bx.ret (.bool true)).2 (by rw [(grownBy_setCell W b6 0 (.bool true)).block WR.heap.size (Array.getElem?_eq_some_iff.1 HX.out.2).1 (by have := HX.out.1.o; have := HX.out.1.bx.o; have := HWR.out.2.2.2.2; simp; omega)]; exact HX.out.2) (HX.out.1.bx.ret (.bool true)).1 (by have := HX.out.1.o; have := HX.out.1.bx.o; have := HWR.out.2.2.2.2; omega) (by have := HX.out.1.o; have := HX.out.1.bx.o; have := HWR.out.2.2.2.2; omega)
                · have hL1' : ¬ (lim : Int) < (tot : Int) := by omega
                  go_wp2
                  obtain ⟨H, hH⟩ : ∃ H, H = wr.heap.size := ⟨_, rfl⟩
                  obtain ⟨WR, hWR⟩ : ∃ WR, WR = (((wr.alloc (.cells #[.int .i64 (lim : Int)] 3)).alloc (.cells #[.int .i64 0] 3)).alloc (.cells #[.pointer (some ⟨sB, 0, none⟩)] 46)).alloc (.cells #[.slice (some ⟨rp, 0, none⟩) N N] 69) := ⟨_, rfl⟩
                  have bR : Below wr.heap.size wr WR := by rw [hWR]; exact ((((Below.refl _ wr).alloc (Nat.le_refl _) _).alloc (by simp) _).alloc (by simp; omega) _).alloc (by simp; omega) _
                  have HWR : Hid (Fx w b4 b6 b7 mb sB rp rg bg rf bf (.slice a N c) mask tot (gis G N) (fis G N) WR ∧ Blk WR H 3 [.int .i64 (lim : Int)] ∧ Blk WR (H + 1) 3 [.int .i64 ((0 : Nat) : Int)] ∧ Src H (H + 1 + 1 + 1) (H + 1 + 1) sB mb mask (.slice (some ⟨rp, 0, none⟩) N N) G WR ∧ WR.heap.size = H + 4 ∧ bf < H) := by
                    have k1 := Blk.new wr 3 [.int .i64 (lim : Int)]
                    have k2 := Blk.new (wr.alloc (.cells #[.int .i64 (lim : Int)] 3)) 3 [.int .i64 0]
                    have k3 := Blk.new ((wr.alloc (.cells #[.int .i64 (lim : Int)] 3)).alloc (.cells #[.int .i64 0] 3)) 46 [.pointer (some ⟨sB, 0, none⟩)]
                    have k4 := Blk.new (((wr.alloc (.cells #[.int .i64 (lim : Int)] 3)).alloc (.cells #[.int .i64 0] 3)).alloc (.cells #[.pointer (some ⟨sB, 0, none⟩)] 46)) 69 [.slice (some ⟨rp, 0, none⟩) N N]
                    simp only [World.size_alloc] at k2 k3 k4
                    have hfx := HGR.out.2.below bR HGR.out.2.fb.lt
                    rw [hH]
                    refine ⟨hfx, by rw [hWR]; exact ((k1.alloc _).alloc _).alloc _, by rw [hWR]; exact (k2.alloc _).alloc _, ⟨by rw [hWR]; exact k4, by rw [hWR]; exact k3.alloc _, hfx.st, hfx.mp, HGR.out.1.kept (Keep.of_below bR (Nat.le_refl _)) (Nat.le_refl _) (Nat.le_refl _)⟩, by rw [hWR]; simp, HGR.out.2.fb.lt⟩
                  rw [← hWR, ← hH]
                  clear hWR hH bR HGR c7 l7
                  refine wp_rangeUpd (fun kv pv t => (((t.setIfInBounds 210 kv).setIfInBounds 211 pv).setIfInBounds 35 kv).setIfInBounds 36 pv) (gf := 16) (lb := #[.pointer (some ⟨H + 1 + 1 + 1, 0, none⟩), .pointer (some ⟨H + 1 + 1, 0, none⟩)]) rfl (enters_of Yba.func16 (by kernel_rfl) rfl) tot (H + 1) (by have := HWR.out; omega) (Given G mask) (fun i kv pv A l r o' h hl => Given.put i kv pv A l r o' h hl) ?hseqC rfl
                    (fun i W => Fx w b4 b6 b7 mb sB rp rg bg rf bf (.slice a N c) mask tot (gis G N) (fis G N) W ∧ Blk W H 3 [.int .i64 (lim : Int)] ∧ Blk W (H + 1) 3 [.int .i64 (i : Int)] ∧ (lim = 0 ∨ i < lim))
                    (fun cc i W => cc = .exit 16 ∧ Fx w b4 b6 b7 mb sB rp rg bg rf bf (.slice a N c) mask tot (gis G N) (fis G N) W ∧ Blk W H 3 [.int .i64 (lim : Int)] ∧ Blk W (H + 1) 3 [.int .i64 (i : Int)] ∧ lim ≠ 0 ∧ i = lim)
                    (fun i A B h hb => ⟨h.1.below hb (by have := HWR.out; omega), h.2.1.later hb (by have := HWR.out; omega), h.2.2.1.later hb (by have := HWR.out; omega), h.2.2.2⟩)
                    (fun cc i A B h hb => ⟨h.1, h.2.1.below hb (by have := HWR.out; omega), h.2.2.1.later hb (by have := HWR.out; omega), h.2.2.2.1.later hb (by have := HWR.out; omega), h.2.2.2.2⟩)
                    ⟨HWR.out.1, HWR.out.2.1, HWR.out.2.2.1, by omega⟩ ?assignC ?bodyC ?doneC ?stopC
                  case hseqC =>
                    intro l J Jx W hsz hbW hJ hY h0
                    have hsr : Src H (H + 1 + 1 + 1) (H + 1 + 1) sB mb mask (.slice (some ⟨rp, 0, none⟩) N N) G W := HWR.out.2.2.2.1.keep (by have := HWR.out.1.o; have := HWR.out.2.2.2.2.2; omega) (by have := HWR.out.1.o; have := HWR.out.2.2.2.2.2; omega) (fun k hk => hbW.block k (by have := HWR.out.2.2.2.2.1; omega))
                    have h9 := iter_at H (H + 1 + 1 + 1) (H + 1 + 1) sB mb (H + 1) WR.heap.size mask (.slice (some ⟨rp, 0, none⟩) N N) G HF.out.1 (fun g hg => by
                        have h1 := HF.out.2.1
                        obtain ⟨l1, l2, e⟩ := List.append_of_mem hg
                        rw [e] at h1
                        simp at h1
                        omega) (fun g hg z hz => by
                        have hm : z ∈ G.flatten := List.mem_flatten.2 ⟨g, hg, hz⟩
                        have h1 := HF.out.2.2.1 z hm
                        have h2 : smp z.M ≤ 4096 := by
                          refine Nat.le_trans ?_ HF.out.2.2.2
                          obtain ⟨l1, l2, e⟩ := List.append_of_mem hm
                          rw [e]
                          simp [smps]
                          omega
                        unfold smp at h2
                        omega) (by omega) (by have := HWR.out.2.2.2.2.1; omega) (by have := HWR.out.2.2.2.2.1; omega) (by have := HWR.out.2.2.2.2.1; omega) (by omega) (by omega) (by have := HWR.out.1.o; have := HWR.out.2.2.2.2.2; omega) (by have := HWR.out.1.o; have := HWR.out.2.2.2.2.2; omega) l J Jx W hsz hsr hJ (by rw [← HTO.out]; exact hY) h0
                    rw [← HTO.out] at h9
                    simpa using h9
                  case assignC =>
                    intro l kv pv W K hK
                    simp only [List.zip_toArray, List.zip_cons_cons, List.zip_nil_right, List.zip_nil_left, List.size_toArray, List.foldl_toArray', List.foldl_cons, List.foldl_nil, List.setIfInBounds_toArray, List.set_cons_succ, List.set_cons_zero] at hK ⊢
                    gi_wp2
                    exact hK
                  case bodyC =>
                    rintro l i kv pv W ⟨hfx, hbl, hbc, hlt⟩ hi ⟨j, g, f, z, hj, hf, hij, ⟨kp, kc, hkv⟩, pk, nk, capk, cs, q, qc, rfl, hpl, hcs, hpc⟩
                    obtain ⟨q3, hq3⟩ : ∃ q3, q3 = j % 3 := ⟨_, rfl⟩
                    have hj3 : (j : Int) % 3 = (q3 : Int) := by omega
                    rw [← hq3] at hkv
                    subst hkv
                    clear hq3
                    simp only [List.setIfInBounds_toArray, List.set_cons_succ, List.set_cons_zero]
                    have c34 : W.cell? ⟨H + 1, 0, none⟩ = some (.int .i64 (i : Int)) := hbc.cell 0
                    have f34 : W.frozen? ⟨H + 1, 0, none⟩ = false := hbc.frozen 0
                    have c32 : W.cell? ⟨H, 0, none⟩ = some (.int .i64 (lim : Int)) := hbl.cell 0
                    have c7 : W.cell? ⟨b7, 0, none⟩ = some (.int .i64 tot) := hfx.bx.t.cell 0
                    have c3 : W.cell? ⟨w.heap.size, 0, none⟩ = some (.slice a N c) := hfx.bx.g.cell 0
                    have c4 : W.cell? ⟨b4, 0, none⟩ = some (.int .u8 mask) := hfx.bx.m.cell 0
                    have hgln : (gis G N).length = tot := by rw [gis_len G N (by have := HN.out; omega), List.take_of_length_le (by have := HN.out; omega), HTO.out]
                    have hfln : (fis G N).length = tot := by rw [fis_len G N (by have := HN.out; omega), List.take_of_length_le (by have := HN.out; omega), HTO.out]
                    have hjl : j < N := by have := (List.getElem?_eq_some_iff.1 hj).1; have := HN.out; omega
                    have hga := gis_at G j f g hj (List.getElem?_eq_some_iff.1 hf).1 N hjl (by have := HN.out; omega)
                    rw [← hij] at hga
                    have hcg : W.cell? ⟨rg, i, none⟩ = some (.int .i64 (j : Int)) := by
                      have h1 := hfx.gr.cellAt i (by rw [hgln]; omega)
                      rw [h1]
                      unfold ints
                      rw [List.getElem?_map, hga.1]
                      rfl
                    have hcf : W.cell? ⟨rf, i, none⟩ = some (.int .i64 (f : Int)) := by
                      have h1 := hfx.fr.cellAt i (by rw [hfln]; omega)
                      rw [h1]
                      unfold ints
                      rw [List.getElem?_map, hga.2]
                      rfl
                    have c19 : W.cell? ⟨bg, 0, none⟩ = some (.slice (some ⟨rg, 0, none⟩) tot tot) := by rw [hfx.gb.cell 0, hgln]; rfl
                    have c20 : W.cell? ⟨bf, 0, none⟩ = some (.slice (some ⟨rf, 0, none⟩) tot tot) := by rw [hfx.fb.cell 0, hfln]; rfl
                    obtain ⟨b, o, e0, _, hblt, hget⟩ := SubL.get (HBi.out W hfx.bx.b) (by have := HN.out; omega)
                    subst e0
                    obtain ⟨x, hfam, hcell⟩ := hget j g hj
                    obtain ⟨fp, fc, rfl⟩ := SubL.form hfam
                    have d0 : W.cell? ⟨b, o + j, none⟩ = some (.slice fp g.length fc) := by
                      have := hcell 0 _ rfl
                      rw [Nat.mul_one, Nat.add_zero] at this
                      exact this
                    have hfl : f < g.length := (List.getElem?_eq_some_iff.1 hf).1
                    obtain ⟨fb, fo, e0, _, hfblt, hgetf⟩ := SubL.get hfam (by omega)
                    subst e0
                    obtain ⟨mv, ⟨hmet, hk0, hk1⟩, hcellf⟩ := hgetf f z hf
                    obtain ⟨mp, mc, rfl⟩ := SubL.form hmet
                    have g0 : W.cell? ⟨fb, fo + f * 3, none⟩ = _ := hcellf 0 _ rfl
                    have g1 : W.cell? ⟨fb, fo + f * 3 + 1, none⟩ = _ := hcellf 1 _ rfl
                    have g2 : W.cell? ⟨fb, fo + f * 3 + 2, none⟩ = _ := hcellf 2 _ rfl
                    have hzl : z.M.flatten.length ≤ 4096 ∧ z.M.length ≤ 4096 := by
                      have hm : z ∈ G.flatten := List.mem_flatten.2 ⟨g, List.mem_of_getElem? hj, List.mem_of_getElem? hf⟩
                      have h1 := HF.out.2.2.1 z hm
                      have h2 : smp z.M ≤ 4096 := by
                        refine Nat.le_trans ?_ HF.out.2.2.2
                        obtain ⟨l1, l2, e⟩ := List.append_of_mem hm
                        rw [e]
                        simp [smps]
                        omega
                      unfold smp at h2
                      omega
                    have HCK : Hid (∀ p : Later W, Calls Yba.prog 13 #[.agg #[.int .u8 z.k, .bool z.c, .slice mp z.M.length mc], .int .u8 mask, .slice (some ⟨pk, 0, none⟩) nk capk] p.w fun e w' => e = .returned (.bool true) ∧ Below W.heap.size W w') := fun p => by
                      have hsw : w.heap.size ≤ W.heap.size := hfx.bx.b.size
                      refine (check_at z.c z.k mask q qc z.M mp mc pk nk capk cs p.w hk0 hk1 hm0 hm1 (hmet.kept (fun k _ hk => p.h.block k (by omega)) (Nat.le_refl _) (Nat.le_trans hsw p.h.size)) hzl.1 hzl.2 (Nat.lt_of_lt_of_le hpl p.h.size) (fun jj u hu => by rw [p.h.cell (p := ⟨pk, jj, none⟩) hpl]; exact hcs jj u hu) hpc).mono ?_
                      rintro e w' ⟨h1, h2⟩
                      exact ⟨h1, p.h.trans (h2.mono p.h.size)⟩
                    have HST : Hid (Fx w b4 b6 b7 mb sB rp rg bg rf bf (.slice (some ⟨b, o, none⟩) N c) mask tot (gis G N) (fis G N) W ∧ Blk W H 3 [.int .i64 (lim : Int)] ∧ Blk W (H + 1) 3 [.int .i64 (i : Int)] ∧ (lim = 0 ∨ i < lim)) := ⟨hfx, hbl, hbc, hlt⟩
                    have hi' : (i : Int) < (tot : Int) := by omega
                    have hjn' : (j : Int) < (N : Int) := by omega
                    obtain ⟨K, hK⟩ : ∃ K, K = g.length := ⟨_, rfl⟩
                    rw [← hK] at d0 hfl
                    have hfl' : (f : Int) < (K : Int) := by omega
                    have hmx : Yba.prog.follows .mixedOrders = true := by kernel_rfl
                    clear hfx hbl hbc hlt hpl hcs hpc hgln hfln hga hcell hget hfam hgetf hcellf hmet hK hzl hij
                    gi_wp2
                    have hN : Nonempty (Later W) := ⟨⟨W, Below.refl _ _⟩⟩
                    have e3 : ∀ p : Later W, p.w.cell? ⟨w.heap.size, 0, none⟩ = some (.slice (some ⟨b, o, none⟩) N c) := fun p => by rw [p.h.cell (p := ⟨w.heap.size, 0, none⟩) HST.out.1.bx.g.lt]; exact c3
                    have e4 : ∀ p : Later W, p.w.cell? ⟨b4, 0, none⟩ = some (.int .u8 mask) := fun p => by rw [p.h.cell (p := ⟨b4, 0, none⟩) HST.out.1.bx.m.lt]; exact c4
                    have hWs : w.heap.size ≤ W.heap.size := HST.out.1.bx.b.size
                    have ed : ∀ p : Later W, p.w.cell? ⟨b, o + j, none⟩ = some (.slice (some ⟨fb, fo, none⟩) K fc) := fun p => by rw [p.h.cell (p := ⟨b, o + j, none⟩) (by show b < W.heap.size; omega)]; exact d0
                    have eg0 : ∀ p : Later W, p.w.cell? ⟨fb, fo + f * 3, none⟩ = some (.int .u8 z.k) := fun p => by rw [p.h.cell (p := ⟨fb, fo + f * 3, none⟩) (by show fb < W.heap.size; omega)]; exact g0
                    have eg1 : ∀ p : Later W, p.w.cell? ⟨fb, fo + f * 3 + 1, none⟩ = some (.bool z.c) := fun p => by rw [p.h.cell (p := ⟨fb, fo + f * 3 + 1, none⟩) (by show fb < W.heap.size; omega)]; exact g1
                    have eg2 : ∀ p : Later W, p.w.cell? ⟨fb, fo + f * 3 + 2, none⟩ = some (.slice mp z.M.length mc) := fun p => by rw [p.h.cell (p := ⟨fb, fo + f * 3 + 2, none⟩) (by show fb < W.heap.size; omega)]; exact g2
                    refine wpIn_region_later_round (by kernel_rfl) (by kernel_rfl) (by kernel_rfl) ?_
                    iterate 9 (go_big_quiet_step (fail))
                    go_big_quiet_want
                    go_big_quiet_op
                    refine ⟨_, fun p => calls_later (HCK.out p), ?_⟩
                    go_big_quiet_on
                    go_big_quiet_step (fail)
                    refine wpQuiet_nil ?_
                    rintro w5 ⟨⟨w5x, hb5⟩, rfl⟩
                    clear e3 e4 ed eg0 eg1 eg2 hN
                    have HS5 : Hid (Fx w b4 b6 b7 mb sB rp rg bg rf bf (.slice (some ⟨b, o, none⟩) N c) mask tot (gis G N) (fis G N) (w5.setCell ⟨H + 1, 0, none⟩ (.int .i64 ((i : Int) + 1))) ∧ Blk (w5.setCell ⟨H + 1, 0, none⟩ (.int .i64 ((i : Int) + 1))) H 3 [.int .i64 (lim : Int)] ∧ Blk (w5.setCell ⟨H + 1, 0, none⟩ (.int .i64 ((i : Int) + 1))) (H + 1) 3 [.int .i64 ((i + 1 : Nat) : Int)] ∧ KeepX (· = H + 1) W (w5.setCell ⟨H + 1, 0, none⟩ (.int .i64 ((i : Int) + 1)))) := by
                      obtain ⟨q1, q2, q3, q4⟩ := HST.out
                      have gs := grownBy_setCell w5 (H + 1) 0 (.int .i64 ((i : Int) + 1))
                      have hbH : bf < H := HWR.out.2.2.2.2.2
                      exact ⟨(q1.below hb5 q1.fb.lt).grown gs (.inr (by omega)), (q2.on hb5).kept gs (by simp), (q3.on hb5).stored 0 _, ⟨by have := gs.size; have := hb5.size; omega, fun k hk hn => (gs.block k (by have := hb5.size; omega) (by simp; omega)).trans (hb5.block k hk)⟩⟩
                    have c34' : w5.cell? ⟨H + 1, 0, none⟩ = some (.int .i64 (i : Int)) := (HST.out.2.2.1.on hb5).cell 0
                    have f34' : w5.frozen? ⟨H + 1, 0, none⟩ = false := (HST.out.2.2.1.on hb5).frozen 0
                    have c32' : w5.cell? ⟨H, 0, none⟩ = some (.int .i64 (lim : Int)) := (HST.out.2.1.on hb5).cell 0
                    have HLT : Hid (lim = 0 ∨ i < lim) := HST.out.2.2.2
                    have hne : ¬ H = H + 1 := by omega
                    have hil : i ≤ 1024 := by omega
                    clear HST hb5 c34 f34 c32 c7 c3 c4 hcg hcf c19 c20 d0 g0 g1 g2 HCK
                    by_cases he : i + 1 = lim
                    · have he' : ((i : Int) + 1 == (lim : Int)) = true := by simp; omega
                      gi_wp2
                      exact ⟨HS5.out.2.2.2, rfl, HS5.out.1, HS5.out.2.1, HS5.out.2.2.1, hL0, he⟩
                    · have he' : ((i : Int) + 1 == (lim : Int)) = false := by simp; omega
                      gi_wp2
                      exact ⟨HS5.out.2.2.2, HS5.out.1, HS5.out.2.1, HS5.out.2.2.1, .inr (by have := HLT.out; omega)⟩
                  case doneC =>
                    rintro W ⟨hfx, hbl, hbc, hlt⟩ hK
                    have c34 : W.cell? ⟨H + 1, 0, none⟩ = some (.int .i64 (tot : Int)) := hbc.cell 0
                    have c6 : W.cell? ⟨b6, 0, none⟩ = some (.bool false) := hfx.bx.r.cell 0
                    have f6 : W.frozen? ⟨b6, 0, none⟩ = false := hfx.bx.r.frozen 0
                    have HX : Hid (Fx w b4 b6 b7 mb sB rp rg bg rf bf (.slice a N c) mask tot (gis G N) (fis G N) W ∧ W.heap[WR.heap.size]? = some (.deferred (some []))) := ⟨hfx, hK⟩
                    clear hfx hbl hbc hlt hK
                    repeat go_step
                    exact fin4 w _ WR.heap.size b6 _ rfl (HX.out.1.bx.ret (.bool true)).2 (by rw [(grownBy_setCell W b6 0 (.bool true)).block WR.heap.size (Array.getElem?_eq_some_iff.1 HX.out.2).1 (by have := HX.out.1.o; have := HX.out.1.bx.o; have := HWR.out.2.2.2.2; simp; omega)]; exact HX.out.2) (HX.out.1.bx.ret (.bool true)).1 (by have := HX.out.1.o; have := HX.out.1.bx.o; have := HWR.out.2.2.2.2; omega) (by have := HX.out.1.o; have := HX.out.1.bx.o; have := HWR.out.2.2.2.2; omega)
                  case stopC =>
                    rintro cc i W hiN ⟨rfl, hfx, hbl, hbc, hl0, hil⟩ hK
                    obtain rfl : tot = i := by omega
                    have c34 : W.cell? ⟨H + 1, 0, none⟩ = some (.int .i64 (tot : Int)) := hbc.cell 0
                    have c6 : W.cell? ⟨b6, 0, none⟩ = some (.bool false) := hfx.bx.r.cell 0
                    have f6 : W.frozen? ⟨b6, 0, none⟩ = false := hfx.bx.r.frozen 0
                    have HX : Hid (Fx w b4 b6 b7 mb sB rp rg bg rf bf (.slice a N c) mask tot (gis G N) (fis G N) W ∧ W.heap[WR.heap.size]? = some (.deferred (some []))) := ⟨hfx, hK⟩
                    clear hfx hbl hbc hl0 hK hil
                    repeat go_step
                    exact fin4 w _ WR.heap.size b6 _ rfl (HX.out.1.bx.ret (.bool true)).2 (by rw [(grownBy_setCell W b6 0 (.bool true)).block WR.heap.size (Array.getElem?_eq_some_iff.1 HX.out.2).1 (by have := HX.out.1.o; have := HX.out.1.bx.o; have := HWR.out.2.2.2.2; simp; omega)]; exact HX.out.2) (HX.out.1.bx.ret (.bool true)).1 (by have := HX.out.1.o; have := HX.out.1.bx.o; have := HWR.out.2.2.2.2; omega) (by have := HX.out.1.o; have := HX.out.1.bx.o; have := HWR.out.2.2.2.2; omega)
end Go.Proofs.Ybulkadpk
