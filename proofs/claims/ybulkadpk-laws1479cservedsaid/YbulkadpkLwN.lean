import Derived.Test.YbulkadpkLwP
namespace Go.Proofs.Ybulkadpk
open Go.RowKit Go.QuietTail Go.CountedRange
set_option linter.unusedVariables false
set_option linter.unusedSimpArgs false

set_option maxHeartbeats 4000000 in
set_option maxRecDepth 100000 in
theorem served_nofit (G : List (List Zf)) (a : Option Addr) (c : Nat) (mask stop : Int) (w : World) (hI : InGrps 0 w.heap.size w (.slice a G.length c) G) (hF : ¬ Fits G) (hF1 : G.length ≤ 256) (hm0 : 0 ≤ mask) (hm1 : mask ≤ 255) (hs0 : 0 ≤ stop) (hs1 : stop ≤ 65535) :
    Calls Yba.prog 4 #[.slice a G.length c, .int .u8 mask, .int .u16 stop] w fun e w' => e = .returned (.bool true) ∧ Below w.heap.size w w' := by
  obtain ⟨N, hN⟩ : ∃ N, N = G.length := ⟨_, rfl⟩
  have HN : Hid (G.length = N) := hN.symm
  have HI : Hid (InGrps 0 w.heap.size w (.slice a N c) G) := by rw [hN]; exact hI
  have hn256 : N ≤ 256 := by rw [hN]; exact hF1
  have HF : Hid (¬ Fits G) := hF
  rw [← hN]
  clear hN hI hF hF1
  go_enter Yba.func4, Yba.ntmps4
  go_wp2
  obtain ⟨b3, hb3⟩ : ∃ b, b = w.heap.size := ⟨_, rfl⟩
  obtain ⟨W0, hW0⟩ : ∃ W0, W0 = (((w.alloc (.cells #[.slice a N c] 38)).alloc (.cells #[.int .u8 mask] 5)).alloc (.cells #[.bool false] 4)).alloc (.cells #[.int .i64 0] 3) := ⟨_, rfl⟩
  have HB0 : Hid (Bx w w.heap.size (w.heap.size + 1) (w.heap.size + 1 + 1) (w.heap.size + 1 + 1 + 1) (.slice a N c) mask 0 W0) := by
    have k1 := Blk.new w 38 [.slice a N c]
    have k2 := Blk.new (w.alloc (.cells #[.slice a N c] 38)) 5 [.int .u8 mask]
    have k3 := Blk.new ((w.alloc (.cells #[.slice a N c] 38)).alloc (.cells #[.int .u8 mask] 5)) 4 [.bool false]
    have k4 := Blk.new (((w.alloc (.cells #[.slice a N c] 38)).alloc (.cells #[.int .u8 mask] 5)).alloc (.cells #[.bool false] 4)) 3 [.int .i64 0]
    simp only [World.size_alloc] at k2 k3 k4
    rw [hW0]
    exact ⟨((k1.alloc _).alloc _).alloc _, (k2.alloc _).alloc _, k3.alloc _, k4, (((((Below.refl _ w).alloc (Nat.le_refl _) _).alloc (by simp) _).alloc (by simp; omega) _).alloc (by simp; omega) _), Nat.le_refl _, by omega, by omega, by omega⟩
  rw [← hW0]
  clear hW0 hb3 b3
  generalize w.heap.size + 1 + 1 + 1 = b7 at *
  generalize w.heap.size + 1 + 1 = b6 at *
  generalize w.heap.size + 1 = b4 at *
  have HBi : Hid (∀ W, Below w.heap.size w W → InGrps 0 w.heap.size W (.slice a N c) G) := fun W h => HI.out.kept (Keep.of_below h (Nat.le_refl _)) (Nat.le_refl _) (Nat.le_refl _)
  clear HI
  have z0 : smps (G.take 0).flatten = 0 := by simp [smps]
  have z1 : (G.take 0).flatten.length = 0 := by simp
  have HS1 : Hid (Bx w w.heap.size b4 b6 b7 (.slice a N c) mask (G.take 0).flatten.length W0 ∧ (G.take 0).flatten.length ≤ 1024 ∧ (∀ z ∈ (G.take 0).flatten, z.M.length ≤ 1024) ∧ smps (G.take 0).flatten ≤ 4096) := ⟨by rw [z1]; exact HB0.out, by rw [z1]; omega, by simp, by rw [z0]; omega⟩
  go_loopw [8, 44] (fun u t wr => ∃ j : Nat, u = .int .i64 (smps (G.take j).flatten) ∧ t = .int .i64 j ∧ j ≤ N ∧ Hid (Bx w w.heap.size b4 b6 b7 (.slice a N c) mask (G.take j).flatten.length wr ∧ (G.take j).flatten.length ≤ 1024 ∧ (∀ z ∈ (G.take j).flatten, z.M.length ≤ 1024) ∧ smps (G.take j).flatten ≤ 4096)) (fun u t wr => (N - intOf t).toNat)
  case atStart => exact ⟨0, by rw [z0]; rfl, rfl, Nat.zero_le _, HS1⟩
  case round =>
    obtain ⟨j, rfl, rfl, hjn, HHH⟩ := hrel
    have HH : Hid (Bx w w.heap.size b4 b6 b7 (.slice a N c) mask (G.take j).flatten.length wr) := HHH.out.1
    have HJ1 : Hid ((G.take j).flatten.length ≤ 1024 ∧ (∀ z ∈ (G.take j).flatten, z.M.length ≤ 1024) ∧ smps (G.take j).flatten ≤ 4096) := HHH.out.2
    clear HS1 HB0 z0 z1 HHH
    by_cases hlt : j < N
    · have hlt' : (j : Int) < (N : Int) := by omega
      obtain ⟨g, hg⟩ : ∃ g, G[j]? = some g := ⟨_, List.getElem?_eq_getElem (by have := HN.out; omega)⟩
      have HG : Hid (G[j]? = some g) := hg
      obtain ⟨b, o, e0, _, hblt, hget⟩ := SubL.get (HBi.out wr HH.out.b) (by have := HN.out; omega)
      subst e0
      obtain ⟨x, hfam, hcell⟩ := hget j g hg
      obtain ⟨fp, fc, rfl⟩ := SubL.form hfam
      have d0 : wr.cell? ⟨b, o + j, none⟩ = some (.slice fp g.length fc) := by
        have := hcell 0 _ rfl
        rw [Nat.mul_one, Nat.add_zero] at this
        exact this
      have HTS : Hid ((G.take (j + 1)).flatten.length = (G.take j).flatten.length + g.length) := flat_take_succ hg
      have HFS : Hid ((G.take (j + 1)).flatten = (G.take j).flatten ++ g) := by show _ = _; rw [List.take_add_one, hg]; simp
      have HFM : Hid (InFams 0 w.heap.size w (.slice fp g.length fc) g) := by
        have h1 := SubL.get (HBi.out w (Below.refl _ _)) (by have := HN.out; omega)
        obtain ⟨b', o', e1, _, _, hget'⟩ := h1
        cases e1
        obtain ⟨x', hfam', hcell'⟩ := hget' j g hg
        have h2 := hcell' 0 _ rfl
        have h3 : w.cell? ⟨b, o + j * 1 + 0, none⟩ = some (.slice fp g.length fc) := by
          rw [← HH.out.b.cell (p := ⟨b, o + j * 1 + 0, none⟩) hblt]
          exact hcell 0 _ rfl
        rw [h3] at h2
        cases h2
        exact hfam'
      have c7 : wr.cell? ⟨b7, 0, none⟩ = some (.int .i64 (G.take j).flatten.length) := HH.out.t.cell 0
      have f7 : wr.frozen? ⟨b7, 0, none⟩ = false := HH.out.t.frozen 0
      obtain ⟨K, hK⟩ : ∃ K, K = g.length := ⟨_, rfl⟩
      have HK : Hid (g.length = K) := hK.symm
      rw [← hK] at d0 HTS HFM
      obtain ⟨T, hT⟩ : ∃ T, T = (G.take j).flatten.length := ⟨_, rfl⟩
      rw [← hT] at HTS c7 HH HJ1
      obtain ⟨F0, hF0⟩ : ∃ F0, F0 = (G.take j).flatten := ⟨_, rfl⟩
      rw [← hF0] at HFS HJ1 ⊢
      clear hK hT hF0 hg hget hcell hfam
      by_cases hK9 : 1024 < K
      · have hK9' : (1024 : Int) < (K : Int) := by omega
        have c6 : wr.cell? ⟨b6, 0, none⟩ = some (.bool false) := HH.out.r.cell 0
        have f6 : wr.frozen? ⟨b6, 0, none⟩ = false := HH.out.r.frozen 0
        go_wp2
        refine bodyPost_ret (res4 _ _ b6 true rfl (HH.out.ret (.bool true)).2) rfl ?_
        exact ⟨rfl, (HH.out.ret (.bool true)).1⟩
      have hK9' : (K : Int) ≤ 1024 := by omega
      have HS2 : Hid (Bx w w.heap.size b4 b6 b7 (.slice (some ⟨b, o, none⟩) N c) mask (T + K) (wr.setCell ⟨b7, 0, none⟩ (.int .i64 ((T + K : Nat) : Int)))) := HH.out.set (T + K)
      have hTT : (T : Int) + (K : Int) = ((T + K : Nat) : Int) := by simp
      rw [← hTT] at HS2
      clear hTT
      have hT1 : T ≤ 1024 := HJ1.out.1
      by_cases hT9 : 1024 < T + K
      · have hT9' : (1024 : Int) < (T : Int) + (K : Int) := by omega
        have c6 : (wr.setCell ⟨b7, 0, none⟩ (.int .i64 ((T : Int) + (K : Int)))).cell? ⟨b6, 0, none⟩ = some (.bool false) := HS2.out.r.cell 0
        have f6 : (wr.setCell ⟨b7, 0, none⟩ (.int .i64 ((T : Int) + (K : Int)))).frozen? ⟨b6, 0, none⟩ = false := HS2.out.r.frozen 0
        go_wp2
        refine bodyPost_ret (res4 _ _ b6 true rfl (HS2.out.ret (.bool true)).2) rfl ?_
        exact ⟨rfl, (HS2.out.ret (.bool true)).1⟩
      have hTK : T + K ≤ 1024 := by omega
      go_wp2
      obtain ⟨W2, hW2⟩ : ∃ W2, W2 = wr.setCell ⟨b7, 0, none⟩ (.int .i64 ((T : Int) + (K : Int))) := ⟨_, rfl⟩
      rw [← hW2] at HS2 ⊢
      clear hW2 HH d0 c7 f7
      have HSS : Hid (smps (F0 ++ g.take 0) = smps F0) := by show _ = _; simp
      go_loopw [8, 59] (fun u t wq => ∃ f : Nat, u = .int .i64 (smps (F0 ++ g.take f)) ∧ t = .int .i64 f ∧ f ≤ K ∧ Hid (Bx w w.heap.size b4 b6 b7 (.slice (some ⟨b, o, none⟩) N c) mask (T + K) wq ∧ (∀ z ∈ F0 ++ g.take f, z.M.length ≤ 1024) ∧ smps (F0 ++ g.take f) ≤ 4096)) (fun u t wq => (K - intOf t).toNat)
      case atStart => exact ⟨0, by rw [HSS.out], rfl, Nat.zero_le _, ⟨HS2.out, by simpa using HJ1.out.2.1, by rw [HSS.out]; exact HJ1.out.2.2⟩⟩
      case round =>
        obtain ⟨f, rfl, rfl, hfk, HHH⟩ := hrel
        have HH : Hid (Bx w w.heap.size b4 b6 b7 (.slice (some ⟨b, o, none⟩) N c) mask (T + K) wr) := HHH.out.1
        have HJ2 : Hid ((∀ z ∈ F0 ++ g.take f, z.M.length ≤ 1024) ∧ smps (F0 ++ g.take f) ≤ 4096) := HHH.out.2
        clear HS2 HSS HHH
        by_cases hlt2 : f < K
        · have hlt2' : (f : Int) < (K : Int) := by omega
          obtain ⟨z, hzz⟩ : ∃ z, g[f]? = some z := ⟨_, List.getElem?_eq_getElem (by have := HK.out; omega)⟩
          have HFMr : InFams 0 w.heap.size wr (.slice fp K fc) g := HFM.out.kept (Keep.of_below HH.out.b (Nat.le_refl _)) (Nat.le_refl _) (Nat.le_refl _)
          obtain ⟨fb, fo, e0, _, hfblt, hget⟩ := SubL.get HFMr (by have := HK.out; omega)
          subst e0
          obtain ⟨mv, ⟨hmet, hk0, hk1⟩, hcell⟩ := hget f z hzz
          obtain ⟨mp, mc, rfl⟩ := SubL.form hmet
          have d0 : wr.cell? ⟨fb, fo + f * 3, none⟩ = _ := hcell 0 _ rfl
          have d1 : wr.cell? ⟨fb, fo + f * 3 + 1, none⟩ = _ := hcell 1 _ rfl
          have d2 : wr.cell? ⟨fb, fo + f * 3 + 2, none⟩ = _ := hcell 2 _ rfl
          have HME : Hid (InMets 0 w.heap.size wr (.slice mp z.M.length mc) z.M) := hmet
          have HSZ : Hid (smps (F0 ++ g.take (f + 1)) = smps (F0 ++ g.take f) + smp z.M) := by
            show _ = _
            rw [List.take_add_one, hzz]
            simp only [Option.toList_some]
            rw [← List.append_assoc, smps_snoc]
          obtain ⟨Q, hQ⟩ : ∃ Q, Q = z.M.length := ⟨_, rfl⟩
          have HQ : Hid (z.M.length = Q) := hQ.symm
          rw [← hQ] at d2 HME
          have HZZ : Hid (g[f]? = some z) := hzz
          obtain ⟨S0, hS0⟩ : ∃ S0, S0 = smps (F0 ++ g.take f) := ⟨_, rfl⟩
          rw [← hS0] at HSZ HJ2 ⊢
          clear hQ hS0 hget hcell hmet HFMr hzz
          by_cases hQ9 : 1024 < Q
          · have hQ9' : (1024 : Int) < (Q : Int) := by omega
            have c6 : wr.cell? ⟨b6, 0, none⟩ = some (.bool false) := HH.out.r.cell 0
            have f6 : wr.frozen? ⟨b6, 0, none⟩ = false := HH.out.r.frozen 0
            have l6 : b6 < wr.heap.size := HH.out.r.lt
            go_wp2
            refine bodyPost_ret (res4 _ _ b6 true rfl (((HH.out.r.stored 0 (.bool true)).alloc _).cell 0)) rfl ?_
            exact ⟨rfl, (HH.out.ret (.bool true)).1.alloc (HH.out.ret (.bool true)).1.size _⟩
          have hzM : Q ≤ 1024 := by omega
          go_wp2
          obtain ⟨W3, hW3⟩ : ∃ W3, W3 = wr.alloc (.cells #[.int .u8 z.k, .bool z.c, .slice mp Q mc] 43) := ⟨_, rfl⟩
          have HW3 : Hid (Bx w w.heap.size b4 b6 b7 (.slice (some ⟨b, o, none⟩) N c) mask (T + K) W3) := by show Bx _ _ _ _ _ _ _ _ _; rw [hW3]; exact HH.out.on ((Below.refl _ wr).alloc (Nat.le_refl _) _)
          have HM3 : Hid (∀ W, Below w.heap.size w W → InMets 0 w.heap.size W (.slice mp Q mc) z.M) := fun W hb => by
            refine HME.out.kept (fun k _ hk => ?_) (Nat.le_refl _) (Nat.le_refl _)
            rw [hb.block k hk, HH.out.b.block k hk]
          rw [← hW3]
          clear hW3 HH HME d0 d1 d2
          have HS30 : Hid (S0 + smp (z.M.take 0) = S0) := by show _ = _; simp [smp]
          go_loopw [8, 70] (fun u t wq => ∃ i : Nat, u = .int .i64 ((S0 + smp (z.M.take i) : Nat) : Int) ∧ t = .int .i64 i ∧ i ≤ Q ∧ Hid (Bx w w.heap.size b4 b6 b7 (.slice (some ⟨b, o, none⟩) N c) mask (T + K) wq ∧ S0 + smp (z.M.take i) ≤ 4096)) (fun u t wq => (Q - intOf t).toNat)
          case atStart => exact ⟨0, by rw [HS30.out], rfl, Nat.zero_le _, ⟨HW3.out, by rw [HS30.out]; exact HJ2.out.2⟩⟩
          case round =>
            obtain ⟨i, rfl, rfl, hiq, HHH⟩ := hrel
            have HH : Hid (Bx w w.heap.size b4 b6 b7 (.slice (some ⟨b, o, none⟩) N c) mask (T + K) wr) := HHH.out.1
            have HJ3 : Hid (S0 + smp (z.M.take i) ≤ 4096) := HHH.out.2
            clear HW3 HS30 HHH
            by_cases hlt3 : i < Q
            · have hlt3' : (i : Int) < (Q : Int) := by omega
              obtain ⟨ms, hms⟩ : ∃ ms, z.M[i]? = some ms := ⟨_, List.getElem?_eq_getElem (by have := HQ.out; omega)⟩
              obtain ⟨mb, mo, e0, _, hmblt, hget⟩ := SubL.get (HM3.out wr HH.out.b) (by have := HQ.out; omega)
              subst e0
              obtain ⟨x, hbs, hcell⟩ := hget i ms hms
              obtain ⟨sp, sc, rfl⟩ := SubL.form hbs
              have d0 : wr.cell? ⟨mb, mo + i, none⟩ = some (.slice sp ms.length sc) := by
                have := hcell 0 _ rfl
                rw [Nat.mul_one, Nat.add_zero] at this
                exact this
              have HS3 : Hid (smp (z.M.take (i + 1)) = smp (z.M.take i) + (ms.length + 1)) := by
                show _ = _
                rw [List.take_add_one, hms]
                exact smp_snoc _ _
              obtain ⟨L, hL⟩ : ∃ L, L = ms.length := ⟨_, rfl⟩
              rw [← hL] at d0 HS3
              obtain ⟨R, hR⟩ : ∃ R, R = S0 + smp (z.M.take i) := ⟨_, rfl⟩
              have HR : Hid (R = S0 + smp (z.M.take i)) := hR
              rw [← hR]
              have hR9 : R ≤ 4096 := by have := HJ3.out; omega
              have c6 : wr.cell? ⟨b6, 0, none⟩ = some (.bool false) := HH.out.r.cell 0
              have f6 : wr.frozen? ⟨b6, 0, none⟩ = false := HH.out.r.frozen 0
              clear hL hR hget hcell hbs hms
              by_cases hL9 : 4096 < L
              · have hL9' : (4096 : Int) < (L : Int) := by omega
                go_wp2
                refine bodyPost_ret (res4 _ _ b6 true rfl (HH.out.ret (.bool true)).2) rfl ?_
                exact ⟨rfl, (HH.out.ret (.bool true)).1⟩
              have hL9' : (L : Int) ≤ 4096 := by omega
              by_cases hR8 : 4096 < R + (L + 1)
              · have hR8' : (4096 : Int) < (R : Int) + ((L : Int) + 1) := by omega
                go_wp2
                refine bodyPost_ret (res4 _ _ b6 true rfl (HH.out.ret (.bool true)).2) rfl ?_
                exact ⟨rfl, (HH.out.ret (.bool true)).1⟩
              have hb1 : R + (L + 1) ≤ 4096 := by omega
              go_wp2
              refine ⟨⟨i + 1, ?_, rfl, by omega, ⟨HH.out, by have := HS3.out; have := HR.out; omega⟩⟩, by simp [intOf]; omega⟩
              have h1 := HS3.out
              have h2 := HR.out
              congr 1
              omega
            · have hlt3' : ¬ (i : Int) < (Q : Int) := by omega
              obtain rfl : Q = i := by omega
              have HE : Hid (S0 + smp (z.M.take Q) = smps (F0 ++ g.take (f + 1))) := by show _ = _; rw [List.take_of_length_le (by have := HQ.out; omega), HSZ.out]
              have HJ5 : Hid (∀ z' ∈ F0 ++ g.take (f + 1), z'.M.length ≤ 1024) := fun z' hz' => by
                rw [List.take_add_one, HZZ.out, Option.toList_some, ← List.append_assoc] at hz'
                rcases List.mem_append.1 hz' with h | h
                · exact HJ2.out.1 z' h
                · rw [List.mem_singleton.1 h, HQ.out]
                  exact hzM
              have HJ4 : Hid (smps (F0 ++ g.take (f + 1)) ≤ 4096) := by rw [← HE.out]; exact HJ3.out
              rw [HE.out]
              go_wp2
              refine ⟨⟨f + 1, rfl, rfl, by omega, ⟨HH.out, HJ5.out, HJ4.out⟩⟩, by simp [intOf]; omega⟩
        · have hlt2' : ¬ (f : Int) < (K : Int) := by omega
          obtain rfl : K = f := by omega
          have HE : Hid (smps (F0 ++ g.take K) = smps (G.take (j + 1)).flatten) := by show _ = _; rw [List.take_of_length_le (by have := HK.out; omega), HFS.out]
          have HE2 : Hid (Bx w w.heap.size b4 b6 b7 (.slice (some ⟨b, o, none⟩) N c) mask (G.take (j + 1)).flatten.length wr ∧ (G.take (j + 1)).flatten.length ≤ 1024 ∧ (∀ z ∈ (G.take (j + 1)).flatten, z.M.length ≤ 1024) ∧ smps (G.take (j + 1)).flatten ≤ 4096) := by
            have h1 := HJ2.out
            rw [List.take_of_length_le (by have := HK.out; omega), ← HFS.out] at h1
            exact ⟨by rw [HTS.out]; exact HH.out, by rw [HTS.out]; exact hTK, h1.1, h1.2⟩
          rw [HE.out]
          clear HH
          go_wp2
          refine ⟨⟨j + 1, rfl, rfl, by omega, HE2⟩, by simp [intOf]; omega⟩
    · have hlt' : ¬ (j : Int) < (N : Int) := by omega
      exfalso
      obtain rfl : N = j := by omega
      have h1 := HJ1.out
      rw [List.take_of_length_le (by have := HN.out; omega)] at h1
      exact HF.out ⟨by have := HN.out; omega, h1.1, h1.2.1, h1.2.2⟩
end Go.Proofs.Ybulkadpk
