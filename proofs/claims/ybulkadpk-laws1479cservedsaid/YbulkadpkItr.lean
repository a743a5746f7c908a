import Derived.Test.YbulkadpkItrA
import Derived.Deep.AppendLies
namespace Go.Proofs.Ybulkadpk
open Go.RowKit Go.QuietTail Go.CountedRange
set_option linter.unusedVariables false
set_option linter.unusedSimpArgs false
attribute [local go_sem] Oper.semAt_some

theorem slice0_nil (w : World) : Sem.run Yba.prog (Instr.sliceAt 71 (.slice none 0 0) none (some (.int .i64 0)) none) w = .ok (.slice none 0 0) w := by
  go_simp
theorem slice0_some (g n cap : Nat) (w : World) : Sem.run Yba.prog (Instr.sliceAt 71 (.slice (some ⟨g, 0, none⟩) n cap) none (some (.int .i64 0)) none) w = .ok (.slice (some ⟨g, 0, none⟩) 0 cap) w := by
  go_simp

set_option maxHeartbeats 2000000 in
theorem iter_at (H pb sb sB m bc s0 : Nat) (mask : Int) (pv : Value) (G : List (List Zf)) (hGl : G.length ≤ 256) (hgl : ∀ g ∈ G, g.length ≤ 1024) (hz : ∀ g ∈ G, ∀ z ∈ g, z.M.flatten.length ≤ 4096 ∧ z.M.length ≤ 4096)
    (hH : H ≤ bc) (hbc : bc < s0) (hpb : pb < s0) (hsb : sb < s0) (hpn : pb ≠ bc) (hsn : sb ≠ bc) (hsB : sB < H) (hmH : m < H)
    (l : Nat) (J Jx : Nat → World → Prop) (W : World) (hsz : W.heap.size = s0 + 2) (hS : Src H pb sb sB m mask pv G W) (hJ : ∀ i A B, J i A → Below W.heap.size A B → J i B)
    (hY : ∀ i kv pv W1, J i W1 → i < G.flatten.length → Given G mask i kv pv W1 → YieldAt Fence.wide 0 Yba.prog l #[kv, pv] W1 fun e W' =>
      (e = .returned (.bool true) ∧ J (i + 1) W' ∧ KeepX (fun k => k = bc ∨ k = s0 ∨ k = s0 + 1) W1 W') ∨ (e = .returned (.bool false) ∧ Jx (i + 1) W'))
    (h0 : J 0 W) : Calls Yba.prog 16 #[.func (.yield l) #[] #[], .pointer (some ⟨pb, 0, none⟩), .pointer (some ⟨sb, 0, none⟩)] W fun e W' => (∃ v, e = .returned v) ∧ (J G.flatten.length W' ∨ ∃ i, i ≤ G.flatten.length ∧ Jx i W') := by
  obtain ⟨pp, pc, rfl⟩ := SubL.form hS.gr
  have HJ : Hid (∀ i A B, J i A → Below W.heap.size A B → J i B) := hJ
  have HY : Hid (∀ i kv pv W1, J i W1 → i < G.flatten.length → Given G mask i kv pv W1 → YieldAt Fence.wide 0 Yba.prog l #[kv, pv] W1 fun e W' =>
      (e = .returned (.bool true) ∧ J (i + 1) W' ∧ KeepX (fun k => k = bc ∨ k = s0 ∨ k = s0 + 1) W1 W') ∨ (e = .returned (.bool false) ∧ Jx (i + 1) W')) := hY
  have HGL : Hid (∀ g ∈ G, g.length ≤ 1024) := hgl
  have HZ : Hid (∀ g ∈ G, ∀ z ∈ g, z.M.flatten.length ≤ 4096 ∧ z.M.length ≤ 4096) := hz
  have c0 : W.cell? ⟨pb, 0, none⟩ = some (.slice pp G.length pc) := hS.p.cell 0
  obtain ⟨N, hN⟩ : ∃ N, N = G.length := ⟨_, rfl⟩
  have HN : Hid (G.length = N) := hN.symm
  have HS0 : Hid (J (G.take 0).flatten.length W ∧ Src H pb sb sB m mask (.slice pp N pc) G W ∧ W.ownsRow W.heap.size 79 6 (.slice none 0 0) 0 [] ∧ W.heap.size ≤ W.heap.size) := ⟨by simpa using h0, by rw [hN]; exact hS, World.ownsRow_nil _ _ _ _, Nat.le_refl _⟩
  rw [← hN] at hGl c0
  clear hN hJ hY hgl hz hS h0
  go_enter Yba.func16, Yba.ntmps16
  go_wp2
  obtain ⟨S1, hS1⟩ : ∃ S1, S1 = W.heap.size := ⟨_, rfl⟩
  have hS1' : S1 = s0 + 2 := by rw [hS1, hsz]
  have HS00 : Hid (J (G.take 0).flatten.length W ∧ Src H pb sb sB m mask (.slice pp N pc) G W ∧ W.ownsRow S1 79 6 (.slice none 0 0) 0 [] ∧ S1 ≤ W.heap.size) := by rw [hS1]; exact HS0.out
  rw [← hS1] at HJ
  clear c0 hS1 hsz HS0
  go_loopw [4, 11] (fun u t wr => ∃ j : Nat, t = .int .i64 j ∧ j ≤ N ∧ Hid (∃ n cs, J (G.take j).flatten.length wr ∧ Src H pb sb sB m mask (.slice pp N pc) G wr ∧ wr.ownsRow S1 79 6 u n cs ∧ S1 ≤ wr.heap.size)) (fun u t wr => (N - intOf t).toNat)
  case atStart => exact ⟨0, rfl, Nat.zero_le _, ⟨0, [], HS00.out⟩⟩
  case round =>
    obtain ⟨j, rfl, hjn, HH⟩ := hrel
    by_cases hlt : j < N
    · have hlt' : (j : Int) < (N : Int) := by omega
      obtain ⟨g, hg⟩ : ∃ g, G[j]? = some g := ⟨_, List.getElem?_eq_getElem (by have := HN.out; omega)⟩
      have HG : Hid (G[j]? = some g) := hg
      obtain ⟨n0, cs0, hj0, hsr, hown, hs1⟩ := HH.out
      obtain ⟨b, o, e0, _, hblt, hget⟩ := SubL.get hsr.gr (by have := HN.out; omega)
      subst e0
      obtain ⟨⟨kv, fv⟩, ⟨⟨kp, kc, hkv⟩, hfam⟩, hcell⟩ := hget j g hg
      simp only at hkv hfam
      subst hkv
      obtain ⟨fp, fc, rfl⟩ := SubL.form hfam
      have d0 : wr.cell? ⟨b, o + j * 2, none⟩ = some (.slice kp (j % 3) kc) := hcell 0 _ rfl
      have d1 : wr.cell? ⟨b, o + j * 2 + 1, none⟩ = some (.slice fp g.length fc) := hcell 1 _ rfl
      have hgm := HGL.out g (List.mem_of_getElem? hg)
      obtain ⟨K, hK⟩ : ∃ K, K = g.length := ⟨_, rfl⟩
      have HK : Hid (g.length = K) := hK.symm
      obtain ⟨q3, hq3⟩ : ∃ q3, q3 = j % 3 := ⟨_, rfl⟩
      have HQ3 : Hid (q3 = j % 3) := hq3
      rw [← hK] at d1 hgm
      rw [← hq3] at d0
      have HFA : Hid (∀ w', Src H pb sb sB m mask (.slice (some ⟨b, o, none⟩) N pc) G w' → (∀ k, k < H → w'.heap[k]? = wr.heap[k]?) → FamsL 0 H w' (.slice fp K fc) g) := fun w' _ hk => by
        rw [hK]
        exact hfam.kept (fun k _ h => hk k h) (Nat.le_refl _) (Nat.le_refl _)
      have HST : Hid (J (G.take j).flatten.length wr ∧ Src H pb sb sB m mask (.slice (some ⟨b, o, none⟩) N pc) G wr ∧ wr.ownsRow S1 79 6 u4 n0 cs0 ∧ S1 ≤ wr.heap.size) := ⟨hj0, hsr, hown, hs1⟩
      clear hK hq3 hcell hget hfam hj0 hsr hown hs1 HH hg HS00
      go_wp2
      obtain ⟨wm, hwm⟩ : ∃ wm, wm = wr.alloc (.cells #[.slice kp q3 kc, .slice fp K fc] 81) := ⟨_, rfl⟩
      obtain ⟨gb, hgb⟩ : ∃ gb, gb = wr.heap.size := ⟨_, rfl⟩
      have hgb1 : S1 ≤ gb := by rw [hgb]; exact HST.out.2.2.2
      obtain ⟨T0, hT0⟩ : ∃ T0, T0 = (G.take j).flatten.length := ⟨_, rfl⟩
      have HT0 : Hid (T0 = (G.take j).flatten.length) := hT0
      have HIN : Hid (∃ n cs, J (T0 + 0) wm ∧ Src H pb sb sB m mask (.slice (some ⟨b, o, none⟩) N pc) G wm ∧ wm.ownsRow S1 79 6 u4 n cs ∧ Blk wm gb 81 [.slice kp q3 kc, .slice fp K fc] ∧ u4.ownBlock ≠ some gb ∧ FamsL 0 H wm (.slice fp K fc) g) := by
        have hb : Below wr.heap.size wr wm := by rw [hwm]; exact (Below.refl _ wr).alloc (Nat.le_refl _) _
        obtain ⟨a1, a2, a3, a4⟩ := HST.out
        have hHs : H ≤ wr.heap.size := by omega
        have hsr : Src H pb sb sB m mask (.slice (some ⟨b, o, none⟩) N pc) G wm := a2.keep hsB hmH (fun k hk => hb.block k (by have := a2.p.lt; have := a2.s.lt; omega))
        refine ⟨n0, cs0, ?_, hsr, ?_, ?_, fun e => ?_, HFA.out wm hsr (fun k hk => hb.block k (by omega))⟩
        · rw [hT0]; exact HJ.out _ _ _ a1 (hb.mono a4)
        · rw [hwm]; exact a3.alloc _
        · rw [hwm, hgb]; exact Blk.new wr 81 _
        · have := (a3.lt _ e).2; omega
      rw [← hwm, ← hgb]
      clear hwm hgb hT0 HST HFA d0 d1
      go_loopw [4, 18] (fun u t wq => ∃ f : Nat, t = .int .i64 f ∧ f ≤ K ∧ Hid (∃ n cs, J (T0 + f) wq ∧ Src H pb sb sB m mask (.slice (some ⟨b, o, none⟩) N pc) G wq ∧ wq.ownsRow S1 79 6 u n cs ∧ Blk wq gb 81 [.slice kp q3 kc, .slice fp K fc] ∧ u.ownBlock ≠ some gb ∧ FamsL 0 H wq (.slice fp K fc) g)) (fun u t wq => (K - intOf t).toNat)
      case atStart => exact ⟨0, rfl, Nat.zero_le _, HIN⟩
      case round =>
        obtain ⟨f, rfl, hfk, HQ⟩ := hrel
        clear HIN
        by_cases hlt2 : f < K
        · have hlt2' : (f : Int) < (K : Int) := by omega
          obtain ⟨z, hzz⟩ : ∃ z, g[f]? = some z := ⟨_, List.getElem?_eq_getElem (by have := HK.out; omega)⟩
          obtain ⟨n1, cs1, hj1, hsr, hown, hgbk, hne, hfam⟩ := HQ.out
          obtain ⟨fb, fo, e0, _, hfblt, hget⟩ := SubL.get hfam (by have := HK.out; omega)
          subst e0
          obtain ⟨mv, hmet, hcell⟩ := hget f z hzz
          obtain ⟨mp, mc, rfl⟩ := SubL.form hmet
          have e0 : wr.cell? ⟨fb, fo + f * 6, none⟩ = _ := hcell 0 _ rfl
          have e1 : wr.cell? ⟨fb, fo + f * 6 + 1, none⟩ = _ := hcell 1 _ rfl
          have e2 : wr.cell? ⟨fb, fo + f * 6 + 2, none⟩ = _ := hcell 2 _ rfl
          have e3 : wr.cell? ⟨fb, fo + f * 6 + 3, none⟩ = _ := hcell 3 _ rfl
          have e4 : wr.cell? ⟨fb, fo + f * 6 + 4, none⟩ = _ := hcell 4 _ rfl
          have e5 : wr.cell? ⟨fb, fo + f * 6 + 5, none⟩ = _ := hcell 5 _ rfl
          have HZZ : Hid (g[f]? = some z) := hzz
          obtain ⟨dv, hsl, hdo, hdb⟩ : ∃ dv, (∀ w, Sem.run Yba.prog (Instr.sliceAt 71 u4 none (some (.int .i64 0)) none) w = .ok dv w) ∧ wr.ownsRow S1 79 6 dv 0 [] ∧ dv.ownBlock = u4.ownBlock := by
            rcases own_zero hown with ⟨h1, _⟩ | ⟨gp, cap, h1, h2, h3, h4⟩
            · subst h1
              exact ⟨_, slice0_nil, World.ownsRow_nil _ _ _ _, rfl⟩
            · subst h1
              exact ⟨_, fun w => slice0_some gp _ cap w, h4, rfl⟩
          have HDO : Hid (wr.ownsRow S1 79 6 dv 0 []) := hdo
          have HDB : Hid (dv.ownBlock = u4.ownBlock) := hdb
          have HQ2 : Hid _ := (⟨hj1, hsr, hgbk, hne, hfam, hmet⟩ : _ ∧ _ ∧ _ ∧ _ ∧ _ ∧ _)
          clear hget hcell hzz hj1 hsr hown hgbk hne hfam hmet hdo hdb HQ
          go_wp2
          obtain ⟨W7, hW7⟩ : ∃ W7, W7 = wr.alloc (.cells ([.string (nmB z.k), .string (tyB z.c), .string ByteArray.empty, .string ⟨#[104]⟩, .bool false, .slice mp z.M.length mc] : List Value).toArray 79) := ⟨_, rfl⟩
          have hb7 : Below wr.heap.size wr W7 := by rw [hW7]; exact (Below.refl _ wr).alloc (Nat.le_refl _) _
          have HB7 : Hid (Below wr.heap.size wr W7) := hb7
          have HF7 : Hid (∀ w', (∃ n, w' = W7.drewN n) → Blk w' wr.heap.size 79 [.string (nmB z.k), .string (tyB z.c), .string ByteArray.empty, .string ⟨#[104]⟩, .bool false, .slice mp z.M.length mc]) := by
            rintro w' ⟨n, rfl⟩
            rw [hW7]
            exact ⟨(Blk.new wr 79 _).h⟩
          rw [← hW7]
          clear hW7 hb7 e0 e1 e2 e3 e4 e5
          have hgs : S1 ≤ wr.heap.size := Nat.le_trans hgb1 (Nat.le_of_lt HQ2.out.2.2.1.lt)
          have hHs : H ≤ wr.heap.size := by omega
          have HSR7 : Hid (∀ n, Src H pb sb sB m mask (.slice (some ⟨b, o, none⟩) N pc) G (W7.drewN n)) := fun n => HQ2.out.2.1.keep hsB hmH (fun k hk => HB7.out.block k (by omega))
          have c2 : W7.cell? ⟨sb, 0, none⟩ = some (.pointer (some ⟨sB, 0, none⟩)) := (HSR7.out 0).s.cell 0
          refine wp_region_drew_tail 4 (by kernel_rfl) (by kernel_rfl) ?_
          simp only [List.take_succ_cons, List.take_zero, List.drop_succ_cons, List.drop_zero]
          iterate 3 (go_big_quiet_step (fail))
          refine wpQuiet_load_blk rfl 79 (.tmp 8) rfl _ rfl _ _ HF7.out Yba.underlying79 size79 ?_
          simp only [Act.put, List.setIfInBounds_toArray, List.set_cons_succ, List.set_cons_zero]
          refine wpQuiet_nil ?_
          rintro w1 ⟨nq, rfl⟩
          have HMT : Hid (MetsL 0 (W7.drewN nq).heap.size (W7.drewN nq) (.slice mp z.M.length mc) z.M) := HQ2.out.2.2.2.2.2.kept (fun k _ hk => HB7.out.block k (by omega)) (Nat.le_refl _) (Nat.le_trans hHs HB7.out.size)
          have HDW : Hid ((W7.drewN nq).ownsRow S1 79 6 dv 0 []) := by
            refine HDO.out.kept (row := none) ⟨HB7.out.os, HB7.out.tape, HB7.out.output, HB7.out.size, fun k hk _ => HB7.out.block k hk⟩ ?_
            cases dv.ownBlock <;> simp
          have hzl := HZ.out g (List.mem_of_getElem? HG.out) z (List.mem_of_getElem? HZZ.out)
          go_wp2_with fail
          refine (append_at z.c z.k mask (.slice mp z.M.length mc) z.M sB m S1 dv (W7.drewN nq) HMT.out hzl.1 hzl.2 (HSR7.out nq).mp (HSR7.out nq).st (by show sB < W7.heap.size; have := HB7.out.size; omega) HDW.out (by show S1 ≤ W7.heap.size; have := HB7.out.size; omega)).mono ?_
          rintro e w8 ⟨v, rfl, n8, cs8, hown8, hpc8, hg8, hat8⟩
          have HW8 : Hid (Below S1 wr w8) := by
            have h1 : Below S1 wr (W7.drewN nq) := ⟨HB7.out.os, HB7.out.tape, HB7.out.output, HB7.out.size, fun k hk => HB7.out.block k (by omega)⟩
            exact h1.grown hg8 (Nat.le_trans hgs HB7.out.size) (fun k e => (HDO.out.lt k e).1)
          have HJ8 : Hid (J (T0 + f) w8) := HJ.out _ _ _ HQ2.out.1 HW8.out
          have HSR8 : Hid (Src H pb sb sB m mask (.slice (some ⟨b, o, none⟩) N pc) G w8) := HQ2.out.2.1.keep hsB hmH (fun k hk => HW8.out.block k (by omega))
          have HGB8 : Hid (Blk w8 gb 81 [.slice kp q3 kc, .slice (some ⟨fb, fo, none⟩) K fc]) := by
            have h1 : Blk (W7.drewN nq) gb 81 [.slice kp q3 kc, .slice (some ⟨fb, fo, none⟩) K fc] := ⟨(HQ2.out.2.2.1.on HB7.out).h⟩
            exact h1.kept hg8 (fun e => HQ2.out.2.2.2.1 (by rw [← HDB.out]; exact e.symm))
          have HFA8 : Hid (FamsL 0 H w8 (.slice (some ⟨fb, fo, none⟩) K fc) g) := HQ2.out.2.2.2.2.1.kept (fun k _ hk => HW8.out.block k (by omega)) (Nat.le_refl _) (Nat.le_refl _)
          have hn8 : 0 < n8 := by
            unfold PartC at hpc8
            split at hpc8
            · obtain ⟨_, _, _, _, h1 | h1⟩ := hpc8 <;> omega
            · omega
          obtain ⟨pb8, cap8, rfl, hpb8, hpl8⟩ := World.ownsRow.form hown8 hn8
          have HNE8 : Hid (pb8 ≠ gb) := fun e => by
            subst e
            rcases hat8 with h1 | ⟨g9, h1, h2⟩
            · exact HQ2.out.2.2.2.1 (by rw [← HDB.out, ← h1]; rfl)
            · have h3 : pb8 = g9 := by simpa [Value.ownBlock] using h1
              have h4 := HQ2.out.2.2.1.lt
              have h5 := HB7.out.size
              have h6 : (W7.drewN nq).heap.size = W7.heap.size := rfl
              omega
          have HGV : Hid (Given G mask (T0 + f) (.slice kp q3 kc) (.slice (some ⟨pb8, 0, none⟩) n8 cap8) w8) := by
            refine ⟨j, g, f, z, HG.out, HZZ.out, by rw [HT0.out], ⟨kp, kc, by rw [HQ3.out]⟩, pb8, n8, cap8, cs8, mp, mc, rfl, hpl8, fun t u ht => ?_, hpc8⟩
            have := hown8.cells (g := pb8) rfl t u ht
            rw [Addr.add_mid, Nat.zero_add] at this
            exact this
          have HIL : Hid (T0 + f < G.flatten.length) := by
            show _ < _
            have h1 := flat_take_succ HG.out
            have h2 := flat_take_le G (j + 1)
            have h3 := HT0.out
            have h4 := HK.out
            omega
          have HOW8 : Hid (w8.ownsRow S1 79 6 (.slice (some ⟨pb8, 0, none⟩) n8 cap8) n8 cs8) := hown8
          have e29 : w8.cell? ⟨gb, 0, none⟩ = some (.slice kp q3 kc) := HGB8.out.cell 0
          clear hown8 hpc8 hg8 hat8 HQ2 HDO HDB HSR7 HF7 HMT HDW hsl c2 HB7
          simp only []
          iterate 8 go_step
          obtain ⟨fn, tmps, assign, body, hy, hR⟩ := HY.out (T0 + f) _ _ w8 HJ8.out HIL.out HGV.out
          refine (wpIn_wide (n := 0)).1 ?_
          gi_wp2
          refine ⟨rfl, hR.mono ?_⟩
          rintro e W3 (⟨rfl, hJ3, hk3⟩ | ⟨rfl, hx3⟩)
          · have hk : ∀ k, k < w8.heap.size → (k ≠ bc ∧ k ≠ s0 ∧ k ≠ s0 + 1) → W3.heap[k]? = w8.heap[k]? := fun k h1 h2 => hk3.same k h1 (by omega)
            have hs8 : S1 ≤ w8.heap.size := by omega
            have HEND : Hid (∃ n cs, J (T0 + (f + 1)) W3 ∧ Src H pb sb sB m mask (.slice (some ⟨b, o, none⟩) N pc) G W3 ∧ W3.ownsRow S1 79 6 (.slice (some ⟨pb8, 0, none⟩) n8 cap8) n cs ∧ Blk W3 gb 81 [.slice kp q3 kc, .slice (some ⟨fb, fo, none⟩) K fc] ∧ (Value.slice (some ⟨pb8, 0, none⟩) n8 cap8).ownBlock ≠ some gb ∧ FamsL 0 H W3 (.slice (some ⟨fb, fo, none⟩) K fc) g) := by
              refine ⟨n8, cs8, hJ3, HSR8.out.keep hsB hmH (fun k h => hk k (by omega) (by omega)), ?_, ⟨(hk gb HGB8.out.lt (by omega)).trans HGB8.out.h⟩, ?_, HFA8.out.kept (fun k _ h => hk k (by omega) (by omega)) (Nat.le_refl _) (Nat.le_refl _)⟩
              · obtain ⟨h1, h2⟩ := HOW8.out
                refine ⟨h1, ?_⟩
                rcases h2 with h2 | ⟨g9, cap9, cur9, e9, h3, h4, h5⟩
                · exact .inl h2
                · exact .inr ⟨g9, cap9, cur9, e9, h3, (hk g9 (Array.getElem?_eq_some_iff.1 h4).1 (by omega)).trans h4, h5⟩
              · simp only [Value.ownBlock]
                intro e
                exact HNE8.out (by simpa using e)
            clear hk3 hJ3 hk HOW8 HFA8 HGB8 HSR8 HJ8 HGV HNE8 HW8 hy hR e29 hpb8 hpl8
            gi_wp2
            go_wp2
            refine ⟨⟨f + 1, rfl, by omega, HEND⟩, by simp [intOf]; omega⟩
          · clear HOW8 HFA8 HGB8 HSR8 HJ8 HGV HNE8 HW8 hy hR e29 hpb8 hpl8
            gi_wp2
            go_wp2
            refine bodyPost_ret (results_none rfl _ _ _) rfl ?_
            exact ⟨⟨_, rfl⟩, .inr ⟨T0 + f + 1, by have := HIL.out; omega, hx3⟩⟩
        · have hlt2' : ¬ (f : Int) < (K : Int) := by omega
          obtain rfl : K = f := by omega
          have HEND : Hid (∃ n cs, J (G.take (j + 1)).flatten.length wr ∧ Src H pb sb sB m mask (.slice (some ⟨b, o, none⟩) N pc) G wr ∧ wr.ownsRow S1 79 6 u4 n cs ∧ S1 ≤ wr.heap.size) := by
            obtain ⟨n1, cs1, a1, a2, a3, a4, a5, a6⟩ := HQ.out
            refine ⟨n1, cs1, ?_, a2, a3, Nat.le_trans hgb1 (Nat.le_of_lt a4.lt)⟩
            rw [flat_take_succ HG.out, ← HT0.out, HK.out]
            exact a1
          clear HQ
          go_wp2
          refine ⟨⟨j + 1, rfl, by omega, HEND⟩, by simp [intOf]; omega⟩
    · have hlt' : ¬ (j : Int) < (N : Int) := by omega
      obtain rfl : N = j := by omega
      have HEND : Hid (J G.flatten.length wr) := by
        obtain ⟨n1, cs1, a1, _⟩ := HH.out
        rw [List.take_of_length_le (by have := HN.out; omega)] at a1
        exact a1
      clear HH HS00
      go_wp2
      go_end0
      exact ⟨⟨_, rfl⟩, .inl (by have h9 := HEND.out; rw [List.length_flatten] at h9; exact h9)⟩
end Go.Proofs.Ybulkadpk
