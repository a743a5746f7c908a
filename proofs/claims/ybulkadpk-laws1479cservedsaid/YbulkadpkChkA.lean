import Derived.Test.YbulkadpkApp
namespace Go.Proofs.Ybulkadpk
open Go.RowKit Go.QuietTail
set_option linter.unusedVariables false
set_option linter.unusedSimpArgs false

/-- The input's rows: bytes, metrics (slices of bytes). -/
def BytesL (lo hi : Nat) (w : World) (v : Value) (bs : List Int) : Prop := SubL lo hi w v 1 (fun (b : Int) (_ : Unit) => [.int .u8 b]) (fun _ _ b => 0 ≤ b ∧ b ≤ 255) bs
def InMets (lo hi : Nat) (w : World) (v : Value) (M : List (List Int)) : Prop := SubL lo hi w v 1 (fun (_ : List Int) (x : Value) => [x]) (fun _ x bs => BytesL lo hi w x bs) M
theorem BytesL.kept {lo hi lo' hi' : Nat} {w w' : World} {v : Value} {bs : List Int} (h : BytesL lo hi w v bs) (hk : Keep lo hi w w') (hl : lo' ≤ lo) (hh : hi ≤ hi') : BytesL lo' hi' w' v bs := SubL.kept h hk hl hh (fun _ _ _ h => h)
theorem InMets.kept {lo hi lo' hi' : Nat} {w w' : World} {v : Value} {M : List (List Int)} (h : InMets lo hi w v M) (hk : Keep lo hi w w') (hl : lo' ≤ lo) (hh : hi ≤ hi') : InMets lo' hi' w' v M := SubL.kept h hk hl hh (fun _ _ _ h => h.kept hk hl hh)
theorem take_flatten_le (M : List (List Int)) (j : Nat) : (M.take j).flatten.length ≤ M.flatten.length := by
  have h3 : M.flatten = (M.take j).flatten ++ (M.drop j).flatten := by rw [← List.flatten_append, List.take_append_drop]
  rw [h3, List.length_append]
  omega

set_option maxHeartbeats 1000000 in
/-- Where the counter is served split: the loops count, the parts are as they should be. -/
theorem check_split (k mask : Int) (mv : Value) (M : List (List Int)) (mp : Option Addr) (mc : Nat) (g n pc : Nat) (cs : List Value) (w : World) (hk0 : 0 ≤ k) (hk1 : k ≤ 255) (hm0 : 0 ≤ mask) (hm1 : mask ≤ 255)
    (hM : InMets 0 w.heap.size w (.slice mp M.length mc) M) (hl : M.flatten.length ≤ 4096) (hml : M.length ≤ 4096) (hb : bitOf mask k = true) (hg : g < w.heap.size) (hc : ∀ j u, cs[j]? = some u → w.cell? ⟨g, j, none⟩ = some u) (hP : PartC true true k mv M n cs) :
    Calls Yba.prog 13 #[.agg #[.int .u8 k, .bool true, .slice mp M.length mc], .int .u8 mask, .slice (some ⟨g, 0, none⟩) n pc] w fun e w' => e = .returned (.bool true) ∧ Below w.heap.size w w' := by
  obtain ⟨W, hW⟩ : ∃ W, W = w.alloc (.cells #[.int .u8 k, .bool true, .slice mp M.length mc] 43) := ⟨_, rfl⟩
  have HB : Hid (Below w.heap.size w W) := by rw [hW]; exact (Below.refl _ w).alloc (Nat.le_refl _) _
  have HM : Hid (InMets 0 w.heap.size w (.slice mp M.length mc) M) := hM
  have hb' : (bits BinOp.and .u8 (mask / 2 ^ (k % 3).toNat) 1 == 1) = true := hb
  have HP : Hid (PartC true true k mv M n cs) := hP
  have HC : Hid (∀ j u, cs[j]? = some u → w.cell? ⟨g, j, none⟩ = some u) := hc
  clear hM hb hP hc
  go_enter Yba.func13, Yba.ntmps13
  go_wp2_with (go_at_call 9; refine (name_at k hk0 hk1 _).mono ?_; rintro e w1 ⟨rfl, rfl⟩)
  rw [← hW]
  clear hW
  obtain ⟨N, hN⟩ : ∃ N, N = M.length := ⟨_, rfl⟩
  have HN : Hid (M.length = N) := hN.symm
  rw [← hN] at HM hml ⊢
  clear hN
  go_loopw [9, 10, 37] (fun u t v wr => ∃ j : Nat, u = .int .i64 (tots (M.take j).flatten) ∧ t = .int .i64 (cres (M.take j).flatten) ∧ v = .int .i64 j ∧ j ≤ N ∧ Hid (Below w.heap.size w wr)) (fun u t v wr => (N - intOf v).toNat)
  case atStart => exact ⟨0, rfl, rfl, rfl, Nat.zero_le _, HB⟩
  case round =>
    obtain ⟨j, rfl, rfl, rfl, hjn, HH⟩ := hrel
    by_cases hlt : j < N
    · have hlt' : (j : Int) < (N : Int) := by omega
      obtain ⟨ms, hms⟩ : ∃ ms, M[j]? = some ms := ⟨_, List.getElem?_eq_getElem (by have := HN.out; omega)⟩
      obtain ⟨b, o, e0, _, hblt, hget⟩ := SubL.get HM.out (by have := HN.out; omega)
      subst e0
      obtain ⟨x, hsub, hcell⟩ := hget j ms hms
      obtain ⟨sp, sc, rfl⟩ := SubL.form hsub
      have HSU : Hid (BytesL 0 w.heap.size w (.slice sp ms.length sc) ms) := hsub
      have HTK : Hid ((M.take (j + 1)).flatten = (M.take j).flatten ++ ms) := by show _ = _; rw [List.take_add_one, hms]; simp
      have HLE : Hid ((M.take j).flatten.length + ms.length ≤ 4096) := by
        show _ ≤ _
        have h1 := congrArg List.length HTK.out
        have h2 := take_flatten_le M (j + 1)
        rw [List.length_append] at h1
        omega
      have c0 : wr.cell? ⟨b, o + j, none⟩ = some (.slice sp ms.length sc) := by
        rw [HH.out.cell (p := ⟨b, o + j, none⟩) hblt]
        have := hcell 0 _ rfl
        rw [Nat.mul_one, Nat.add_zero] at this
        exact this
      clear hget hcell hsub
      obtain ⟨K, hK⟩ : ∃ K, K = ms.length := ⟨_, rfl⟩
      have HK : Hid (ms.length = K) := hK.symm
      rw [← hK] at HSU c0 HLE
      clear hK
      have hk4 : K ≤ 4096 := by have := HLE.out; omega
      obtain ⟨L0, hL0⟩ : ∃ L0, L0 = (M.take j).flatten := ⟨_, rfl⟩
      rw [← hL0] at HTK HLE ⊢
      clear hL0
      go_wp2
      go_loopw [9, 10, 43] (fun u t v wq => ∃ i : Nat, u = .int .i64 (tots (L0 ++ ms.take i)) ∧ t = .int .i64 (cres (L0 ++ ms.take i)) ∧ v = .int .i64 i ∧ i ≤ K ∧ Hid (Below w.heap.size w wq)) (fun u t v wq => (K - intOf v).toNat)
      case atStart => exact ⟨0, by simp, by simp, rfl, Nat.zero_le _, HH⟩
      case round =>
        obtain ⟨i, rfl, rfl, rfl, hik, HQ⟩ := hrel
        by_cases hlt2 : i < K
        · have hlt2' : (i : Int) < (K : Int) := by omega
          obtain ⟨x, hx⟩ : ∃ x, ms[i]? = some x := ⟨_, List.getElem?_eq_getElem (by have := HK.out; omega)⟩
          obtain ⟨sb, so, e0, _, hsblt, hget⟩ := SubL.get HSU.out (by have := HK.out; omega)
          subst e0
          obtain ⟨_, hxb, hcell⟩ := hget i x hx
          obtain ⟨x0, x1⟩ := hxb
          have d0 : wr.cell? ⟨sb, so + i, none⟩ = some (.int .u8 x) := by
            rw [HQ.out.cell (p := ⟨sb, so + i, none⟩) hsblt]
            have := hcell 0 _ rfl
            rw [Nat.mul_one, Nat.add_zero] at this
            exact this
          have HLX : Hid (L0 ++ ms.take (i + 1) = (L0 ++ ms.take i) ++ [x]) := by show _ = _; rw [List.take_add_one, hx]; simp
          have HLL : Hid ((L0 ++ ms.take i).length < 4096) := by
            show _ < _
            have h1 := HLE.out
            have h2 := List.length_take (i := i) (l := ms)
            rw [List.length_append, h2]
            omega
          clear hget hcell hx
          obtain ⟨L, hL⟩ : ∃ L, L = L0 ++ ms.take i := ⟨_, rfl⟩
          rw [← hL] at HLX HLL ⊢
          clear hL
          have htl : tots L ≤ 4096 := Nat.le_trans (tots_le L) (Nat.le_of_lt HLL.out)
          have hcl : cres L ≤ 4096 := Nat.le_trans (cres_le L) (Nat.le_of_lt HLL.out)
          have HT1 : Hid (tots (L0 ++ ms.take (i + 1)) = if x % 3 = 2 then tots L else tots L + 1) := by show _ = _; rw [HLX.out, tots_snoc]
          have HT2 : Hid (cres (L0 ++ ms.take (i + 1)) = if x % 3 = 2 then cres L + 1 else cres L) := by show _ = _; rw [HLX.out, cres_snoc]
          by_cases q2 : x % 3 = 2
          · go_wp2
            refine ⟨⟨i + 1, by rw [HT1.out, if_pos q2], by rw [HT2.out, if_pos q2] <;> rfl, rfl, by omega, HQ⟩, by simp [intOf]; omega⟩
          · go_wp2
            refine ⟨⟨i + 1, by rw [HT1.out, if_neg q2] <;> rfl, by rw [HT2.out, if_neg q2], rfl, by omega, HQ⟩, by simp [intOf]; omega⟩
        · have hlt2' : ¬ (i : Int) < (K : Int) := by omega
          obtain rfl : K = i := by omega
          have HE : Hid (L0 ++ ms.take K = (M.take (j + 1)).flatten) := by show _ = _; rw [HTK.out, List.take_of_length_le (by have := HK.out; omega)]
          rw [HE.out]
          go_wp2
          refine ⟨⟨j + 1, rfl, rfl, rfl, by omega, HQ⟩, by simp [intOf]; omega⟩
    · have hlt' : ¬ (j : Int) < (N : Int) := by omega
      obtain rfl : N = j := by omega
      have HE : Hid ((M.take N).flatten = M.flatten) := by show _ = _; rw [List.take_of_length_le (by have := HN.out; omega)]
      rw [HE.out]
      obtain ⟨v1, v2, ⟨p1, c1, rfl⟩, ⟨p2, c2, rfl⟩, hcase⟩ := HP.out
      have HGB : Hid (g < w.heap.size) := hg
      have hgr : g < wr.heap.size := Nat.lt_of_lt_of_le hg HH.out.size
      have HRD : Hid (∀ j u, cs[j]? = some u → wr.cell? ⟨g, j, none⟩ = some u) := fun j u hu => by rw [HH.out.cell (p := ⟨g, j, none⟩) hg]; exact HC.out j u hu
      have hgne : ¬ wr.heap.size = g := by omega
      have htl : tots M.flatten ≤ 4096 := Nat.le_trans (tots_le _) hl
      have hcl : cres M.flatten ≤ 4096 := Nat.le_trans (cres_le _) hl
      rcases hcase with ⟨z, rfl, rfl⟩ | ⟨z, rfl, rfl⟩
      · have e0 := HRD.out 0 _ rfl
        have e1 := HRD.out 1 _ rfl
        have e2 := HRD.out 2 _ rfl
        have e3 := HRD.out 3 _ rfl
        have e4 := HRD.out 4 _ rfl
        have e5 := HRD.out 5 _ rfl
        rw [z] at *
        generalize tots M.flatten = tt at *
        clear z HE HC HP HRD HM hlt'
        have hsz := nmB_size k
        go_wp2
        go_ret
        exact ⟨rfl, HH.out.alloc HH.out.size _⟩
      · have e0 := HRD.out 0 _ rfl
        have e1 := HRD.out 1 _ rfl
        have e2 := HRD.out 2 _ rfl
        have e3 := HRD.out 3 _ rfl
        have e4 := HRD.out 4 _ rfl
        have e5 := HRD.out 5 _ rfl
        have f0 := HRD.out 6 _ rfl
        have f1 := HRD.out 7 _ rfl
        have f2 := HRD.out 8 _ rfl
        have f3 := HRD.out 9 _ rfl
        have f4 := HRD.out 10 _ rfl
        have f5 := HRD.out 11 _ rfl
        generalize tots M.flatten = tt at *
        generalize cres M.flatten = cc at *
        have z' : (0 : Int) < (cc : Int) := by omega
        clear HE HC HP HRD HM hlt'
        have hsz := nmB_size k
        go_wp2
        go_ret
        exact ⟨rfl, (HH.out.alloc HH.out.size _).alloc (by have := HH.out.size; simp; omega) _⟩

end Go.Proofs.Ybulkadpk
