import Derived.Test.YbulkadpkSptA
import Derived.Test.YbulkadpkMix
namespace Go.Proofs.Ybulkadpk
open Go.RowKit Go.QuietTail Go.MixedTail
set_option linter.unusedVariables false
set_option linter.unusedSimpArgs false

/-- The worlds in which region 12's loads yield what they yield. -/
structure R12 (mb sx C f : Nat) (x : Value) where
  w : World
  c0 : w.cell? ⟨mb, 0, none⟩ = some (.slice none 0 0)
  c3 : w.cell? ⟨sx, 3, none⟩ = some (.float .f64 f)
  c4 : w.cell? ⟨sx, 4, none⟩ = some (.string ByteArray.empty)
  c5 : w.cell? ⟨C, 5, none⟩ = some x
theorem r12 {w : World} {mb sx C f : Nat} {x : Int} {y v : Value} {nm ty : ByteArray} {prom : Bool} (h1 : Blk w mb 30 [.slice none 0 0, y]) (h2 : Blk w sx 75 (smpC x f)) (h3 : Blk w C 79 (famC nm ty prom v)) : ∃ p : R12 mb sx C f v, w = p.w :=
  ⟨⟨w, h1.cell 0, h2.cell 3, h2.cell 4, h3.cell 5⟩, rfl⟩
theorem Blk.drew {w : World} {g : Nat} {t : TypeId} {cs : List Value} (h : Blk w g t cs) : Blk w.drew g t cs := ⟨h.h⟩
theorem own_succ {W : World} {base : Nat} {e : TypeId} {size : Nat} {v : Value} {k : Nat} {xs : List Value} (h : W.ownsRow base e size v (k + 1) xs) : ∃ g cap, v = .slice (some ⟨g, 0, none⟩) (k + 1) cap := by
  rcases h.2 with ⟨_, h0⟩ | ⟨g, cap, _, rfl, _⟩
  · omega
  · exact ⟨g, cap, rfl⟩
theorem SpS.cOn {w0 : World} {F T C B : Nat} {nm ty : ByteArray} {prom : Bool} {mv : Value} {w w6 : World} {L : List Int} {v1 v2 : Value} {xs1 xs2 : List Value} (h : SpS w0 F T C B nm ty prom mv w L v1 v2 xs1 xs2) (hG : w.grownBy w6 v2.ownBlock) : Blk w6 C 79 (famC (nm ++ ⟨#[95, 99, 114, 101, 97, 116, 101, 100]⟩) ⟨#[103, 97, 117, 103, 101]⟩ false v2) :=
  h.c.kept hG (fun e => by have := (h.r2.lt C e.symm).1; have := h.o.2.2.2.1; omega)
theorem SpS.tOn {w0 : World} {F T C B : Nat} {nm ty : ByteArray} {prom : Bool} {mv : Value} {w w6 : World} {L : List Int} {v1 v2 : Value} {xs1 xs2 : List Value} (h : SpS w0 F T C B nm ty prom mv w L v1 v2 xs1 xs2) (hG : w.grownBy w6 v1.ownBlock) : Blk w6 T 79 (famC (nm ++ ⟨#[95, 116, 111, 116, 97, 108]⟩) ⟨#[117, 110, 107, 110, 111, 119, 110]⟩ true v1) :=
  h.t.kept hG (fun e => by have := (h.r1.lt T e.symm).1; have := h.o.2.2.1; have := h.o.2.2.2.1; omega)

set_option maxHeartbeats 2000000 in
theorem split_any (nm ty : ByteArray) (prom : Bool) (mv : Value) (M : List (List Int)) (w : World) (hs : nm.size ≤ 100) (hM : MetsL 0 w.heap.size w mv M) (hl : M.flatten.length ≤ 4096) (hml : M.length ≤ 4096) :
    Calls Yba.prog 20 #[.agg (famC nm ty prom mv).toArray] w fun e w' => (∃ v1 v2 g, w.heap.size ≤ g ∧ (∃ p c, v1 = .slice p (tots M.flatten) c) ∧ (∃ p c, v2 = .slice p (cres M.flatten) c) ∧
      ((cres M.flatten = 0 ∧ e = .returned (.slice (some ⟨g, 0, none⟩) 1 1) ∧ Blk w' g 79 (famC (nm ++ ⟨#[95, 116, 111, 116, 97, 108]⟩) ⟨#[117, 110, 107, 110, 111, 119, 110]⟩ true v1)) ∨
       (0 < cres M.flatten ∧ e = .returned (.slice (some ⟨g, 0, none⟩) 2 2) ∧ Blk w' g 79 (famC (nm ++ ⟨#[95, 116, 111, 116, 97, 108]⟩) ⟨#[117, 110, 107, 110, 111, 119, 110]⟩ true v1 ++ famC (nm ++ ⟨#[95, 99, 114, 101, 97, 116, 101, 100]⟩) ⟨#[103, 97, 117, 103, 101]⟩ false v2)))) ∧ Below w.heap.size w w' := by
  obtain ⟨mp, mc, rfl⟩ := hM.form
  have HM : Hid (MetsL 0 w.heap.size w (.slice mp M.length mc) M) := hM
  clear hM
  have HF0 : Hid (Blk (w.alloc (.cells (famC nm ty prom (.slice mp M.length mc)).toArray 79)) w.heap.size 79 (famC nm ty prom (.slice mp M.length mc))) := Blk.new w 79 _
  go_enter Yba.func20, Yba.ntmps20
  go_wp2_with (first | (go_at_call 22; refine (sub_cre nm ty prom _ _ w1 hs (HF0.out.on HB1.out)).mono ?_; rintro e w2 ⟨rfl, hb2⟩; have HB2 : Hid (Below w1.heap.size w1 w2) := hb2; clear hb2; have HTZ : Hid (Blk ((w2.alloc (.cells ([.string ⟨#[]⟩, .string ⟨#[]⟩, .string ⟨#[]⟩, .string ⟨#[]⟩, .bool false, .slice none 0 0] : List Value).toArray 79)).alloc (.cells ([.string ⟨#[]⟩, .string ⟨#[]⟩, .string ⟨#[]⟩, .string ⟨#[]⟩, .bool false, .slice none 0 0] : List Value).toArray 79)) w2.heap.size 79 [.string ⟨#[]⟩, .string ⟨#[]⟩, .string ⟨#[]⟩, .string ⟨#[]⟩, .bool false, .slice none 0 0]) := (Blk.new w2 79 [.string ⟨#[]⟩, .string ⟨#[]⟩, .string ⟨#[]⟩, .string ⟨#[]⟩, .bool false, .slice none 0 0]).alloc _; have HCZ : Hid (Blk ((w2.alloc (.cells ([.string ⟨#[]⟩, .string ⟨#[]⟩, .string ⟨#[]⟩, .string ⟨#[]⟩, .bool false, .slice none 0 0] : List Value).toArray 79)).alloc (.cells ([.string ⟨#[]⟩, .string ⟨#[]⟩, .string ⟨#[]⟩, .string ⟨#[]⟩, .bool false, .slice none 0 0] : List Value).toArray 79)) (w2.heap.size + 1) 79 [.string ⟨#[]⟩, .string ⟨#[]⟩, .string ⟨#[]⟩, .string ⟨#[]⟩, .bool false, .slice none 0 0]) := (by have := Blk.new (w2.alloc (.cells ([.string ⟨#[]⟩, .string ⟨#[]⟩, .string ⟨#[]⟩, .string ⟨#[]⟩, .bool false, .slice none 0 0] : List Value).toArray 79)) 79 [.string ⟨#[]⟩, .string ⟨#[]⟩, .string ⟨#[]⟩, .string ⟨#[]⟩, .bool false, .slice none 0 0]; rw [World.size_alloc] at this; exact this); have HF2 : Hid _ := (((HF0.out.on HB1.out).on HB2.out).alloc (.cells ([.string ⟨#[]⟩, .string ⟨#[]⟩, .string ⟨#[]⟩, .string ⟨#[]⟩, .bool false, .slice none 0 0] : List Value).toArray 79)).alloc (.cells ([.string ⟨#[]⟩, .string ⟨#[]⟩, .string ⟨#[]⟩, .string ⟨#[]⟩, .bool false, .slice none 0 0] : List Value).toArray 79)) | (go_at_call 22; refine (sub_tot nm ty prom _ _ _ hs HF0.out).mono ?_; rintro e w1 ⟨rfl, hb1⟩; have HB1 : Hid _ := hb1; clear hb1) | (refine wpList_store_blk rfl 79 (.tmp 5) (.tmp 15) rfl _ rfl (famC (nm ++ ⟨#[95, 99, 114, 101, 97, 116, 101, 100]⟩) ⟨#[103, 97, 117, 103, 101]⟩ false (.slice none 0 0)) rfl _ (HCZ.out.kept HG3.out (by simp)) size79 rfl (famC_one _ _ _ _ _ _) ?_; intro w4 hC4 hG4; have HC4 : Hid _ := hC4; have HG4 : Hid _ := hG4; clear hC4 hG4; have HT4 : Hid _ := HT3.out.kept HG4.out (by simp); have hne : w.heap.size < w2.heap.size := Nat.lt_of_lt_of_le (HF0.out.on HB1.out).lt HB2.out.size; have HF4 : Hid _ := (HF2.out.kept HG3.out (by simp; omega)).kept HG4.out (by simp; omega); have c5 : w4.cell? ⟨w.heap.size, 5, none⟩ = some (.slice mp M.length mc) := HF4.out.cell 5) | (refine wpList_store_blk rfl 79 (.tmp 4) (.tmp 13) rfl _ rfl (famC (nm ++ ⟨#[95, 116, 111, 116, 97, 108]⟩) ⟨#[117, 110, 107, 110, 111, 119, 110]⟩ true (.slice none 0 0)) rfl _ HTZ.out size79 rfl (famC_one _ _ _ _ _ _) ?_; intro w3 hT3 hG3; have HT3 : Hid _ := hT3; have HG3 : Hid _ := hG3; clear hT3 hG3))
  have b2 : Below w.heap.size w w2 := (((Below.refl _ w).alloc (Nat.le_refl _) _).trans (HB1.out.mono (by simp))).trans (HB2.out.mono (Nat.le_of_lt (HF0.out.on HB1.out).lt))
  have HS0 : Hid (SpS w w.heap.size w2.heap.size (w2.heap.size + 1) (w2.heap.size + 2) nm ty prom (.slice mp M.length mc) w4 [] (.slice none 0 0) (.slice none 0 0) [] []) := by
    have s3 := HG3.out.size
    have s4 := HG4.out.size
    simp at s3
    exact ⟨HF4.out, HT4.out, HC4.out, World.ownsRow_nil _ _ _ _, World.ownsRow_nil _ _ _ _, .inl rfl,
      (((b2.alloc b2.size _).alloc (by simp; omega) _).grown HG3.out (by simp; omega) (by rintro k ⟨⟩; omega)).grown HG4.out (by omega) (by rintro k ⟨⟩; omega), ⟨Nat.le_refl _, hne, by omega, by omega, by omega⟩⟩
  obtain ⟨F, hF⟩ : ∃ F, F = w.heap.size := ⟨_, rfl⟩
  obtain ⟨T, hT⟩ : ∃ T, T = w2.heap.size := ⟨_, rfl⟩
  rw [← hT] at HS0 ⊢
  generalize hC : T + 1 = C at *
  generalize hB : T + 2 = B at *
  clear HF0 HB1 HB2 HTZ HCZ HF2 HT3 HG3 HC4 HG4 HT4 HF4 hT hC hB hne b2 c5 w1 w3
  obtain ⟨n, hn⟩ : ∃ n, n = M.length := ⟨_, rfl⟩
  have HN : Hid (M.length = n) := hn.symm
  rw [← hn] at HS0 HM hml ⊢
  clear hn
  go_loopw [19] (fun t wr => ∃ j : Nat, t = .int .i64 j ∧ j ≤ n ∧ Hid (∃ v1 v2 xs1 xs2, SpS w w.heap.size T C B nm ty prom (.slice mp n mc) wr (M.take j).flatten v1 v2 xs1 xs2)) (fun t wr => (n - intOf t).toNat)
  case atStart => exact ⟨0, rfl, Nat.zero_le _, ⟨_, _, _, _, HS0.out⟩⟩
  case round =>
    obtain ⟨j, rfl, hjn, HH⟩ := hrel
    by_cases hlt : j < n
    · have hlt' : (j : Int) < (n : Int) := by omega
      obtain ⟨ms, hms⟩ : ∃ ms, M[j]? = some ms := ⟨_, List.getElem?_eq_getElem (by have := HN.out; omega)⟩
      obtain ⟨b, o, e0, _, hblt, hget⟩ := SubL.get HM.out (by have := HN.out; omega)
      subst e0
      obtain ⟨x, hsub, hcell⟩ := hget j ms hms
      obtain ⟨sp, sc, rfl⟩ := SubL.form hsub
      have HSU : Hid (SampsL 0 w.heap.size w (.slice sp ms.length sc) ms) := hsub
      have HTK : Hid ((M.take (j + 1)).flatten = (M.take j).flatten ++ ms) := by show _ = _; rw [List.take_add_one, hms]; simp
      have HLE : Hid ((M.take j).flatten.length + ms.length ≤ 4096) := by
        show _ ≤ _
        have h1 := congrArg List.length HTK.out
        have h2 : (M.take (j + 1)).flatten.length ≤ M.flatten.length := by
          have h3 : M.flatten = (M.take (j + 1)).flatten ++ (M.drop (j + 1)).flatten := by rw [← List.flatten_append, List.take_append_drop]
          rw [h3, List.length_append]
          omega
        rw [List.length_append] at h1
        omega
      obtain ⟨v1, v2, xs1, xs2, hsp⟩ := HH.out
      have HSP : Hid (SpS w w.heap.size T C B nm ty prom (.slice (some ⟨b, o, none⟩) n mc) wr (M.take j).flatten v1 v2 xs1 xs2) := hsp
      have c0 : wr.cell? ⟨b, o + j * 2, none⟩ = some (.slice none 0 0) := by rw [hsp.b.cell (p := ⟨b, o + j * 2, none⟩) hblt]; exact hcell 0 _ rfl
      have c1 : wr.cell? ⟨b, o + j * 2 + 1, none⟩ = some (.slice sp ms.length sc) := by rw [hsp.b.cell (p := ⟨b, o + j * 2 + 1, none⟩) hblt]; exact hcell 1 _ rfl
      clear hget hcell hsub hsp HH
      obtain ⟨k, hk⟩ : ∃ k, k = ms.length := ⟨_, rfl⟩
      have HK : Hid (ms.length = k) := hk.symm
      rw [← hk] at HSU c1 HLE
      clear hk
      have hk4 : k ≤ 4096 := by have := HLE.out; omega
      go_wp2
      obtain ⟨wm, hwm⟩ : ∃ wm, wm = wr.alloc (.cells #[.slice none 0 0, .slice sp k sc] 30) := ⟨_, rfl⟩
      have HBM : Hid (Below wr.heap.size wr wm) := by show Below _ _ _; rw [hwm]; exact (Below.refl _ wr).alloc (Nat.le_refl _) _
      have HMB : Hid (Blk wm wr.heap.size 30 [.slice none 0 0, .slice sp k sc]) := by show Blk _ _ _ _; rw [hwm]; exact Blk.new wr 30 _
      rw [← hwm]
      clear hwm
      have HS1 : Hid (∃ v1 v2 xs1 xs2, SpS w w.heap.size T C B nm ty prom (.slice (some ⟨b, o, none⟩) n mc) wm ((M.take j).flatten ++ ms.take 0) v1 v2 xs1 xs2 ∧ Blk wm wr.heap.size 30 [.slice none 0 0, .slice sp k sc] ∧ v1.ownBlock ≠ some wr.heap.size ∧ v2.ownBlock ≠ some wr.heap.size) := by
        refine ⟨v1, v2, xs1, xs2, ?_, HMB.out, fun e => ?_, fun e => ?_⟩
        · simpa using HSP.out.on HBM.out
        · have := (HSP.out.r1.lt _ e).2; omega
        · have := (HSP.out.r2.lt _ e).2; omega
      obtain ⟨mb, hmb⟩ : ∃ mb, mb = wr.heap.size := ⟨_, rfl⟩
      have hBm : B ≤ mb := by rw [hmb]; exact HSP.out.o.2.2.2.2
      rw [← hmb] at HS1 ⊢
      clear hmb HBM HMB HSP c0 c1
      go_loopw [26] (fun t wq => ∃ i : Nat, t = .int .i64 i ∧ i ≤ k ∧ Hid (∃ v1 v2 xs1 xs2, SpS w w.heap.size T C B nm ty prom (.slice (some ⟨b, o, none⟩) n mc) wq ((M.take j).flatten ++ ms.take i) v1 v2 xs1 xs2 ∧ Blk wq mb 30 [.slice none 0 0, .slice sp k sc] ∧ v1.ownBlock ≠ some mb ∧ v2.ownBlock ≠ some mb)) (fun t wq => (k - intOf t).toNat)
      case atStart => exact ⟨0, rfl, Nat.zero_le _, HS1⟩
      case round =>
        obtain ⟨i, rfl, hik, HQ⟩ := hrel
        by_cases hlt2 : i < k
        · have hlt2' : (i : Int) < (k : Int) := by omega
          obtain ⟨x, hx⟩ : ∃ x, ms[i]? = some x := ⟨_, List.getElem?_eq_getElem (by have := HK.out; omega)⟩
          obtain ⟨sb, so, e0, _, hsblt, hget⟩ := SubL.get HSU.out (by have := HK.out; omega)
          subst e0
          obtain ⟨fl, _, hcell⟩ := hget i x hx
          obtain ⟨v1, v2, xs1, xs2, hsp, hmbk, hn1, hn2⟩ := HQ.out
          obtain ⟨⟨p1, c1, rfl⟩, ⟨p2, c2, rfl⟩⟩ := hsp.form
          have hbb := hsp.b
          have rd : ∀ t u, (smpC x fl)[t]? = some u → wr.cell? ⟨sb, so + i * 6 + t, none⟩ = some u := fun t u ht => by rw [hbb.cell (p := ⟨sb, so + i * 6 + t, none⟩) hsblt]; exact hcell t u ht
          have d0 := rd 0 _ rfl
          have d1 := rd 1 _ rfl
          have d2 := rd 2 _ rfl
          have d3 := rd 3 _ rfl
          have d4 := rd 4 _ rfl
          have d5 := rd 5 _ rfl
          rw [Nat.add_zero] at d0
          have HQ2 : Hid _ := (⟨hsp, hmbk, hn1, hn2⟩ : _ ∧ _ ∧ _ ∧ _)
          have HX : Hid (ms[i]? = some x) := hx
          have HLL : Hid ((((M.take j).flatten ++ ms.take i).length) < 4096) := by
            show _ < _
            have h1 := HLE.out
            have h2 := List.length_take (i := i) (l := ms)
            rw [List.length_append, h2]
            omega
          have HLX : Hid ((M.take j).flatten ++ ms.take (i + 1) = ((M.take j).flatten ++ ms.take i) ++ [x]) := by show _ = _; rw [List.take_add_one, hx]; simp
          clear rd hcell hget hbb hsp hmbk hn1 hn2 hx HQ
          obtain ⟨L, hL⟩ : ∃ L, L = (M.take j).flatten ++ ms.take i := ⟨_, rfl⟩
          rw [← hL] at HLX HLL HQ2
          clear hL
          have htl : tots L ≤ 4096 := Nat.le_trans (tots_le L) (Nat.le_of_lt HLL.out)
          have hcl : cres L ≤ 4096 := Nat.le_trans (cres_le L) (Nat.le_of_lt HLL.out)
          have after8 : Hid (∀ w5, Blk w5 wr.heap.size 75 (smpC x fl) → (wr.alloc (.cells smpZ.toArray 75)).grownBy w5 (some wr.heap.size) → Below wr.heap.size wr w5) := fun w5 _ hG => ((Below.refl _ wr).alloc (Nat.le_refl _) _).grown hG (by simp) (by rintro k ⟨⟩; exact Nat.le_refl _)
          obtain ⟨i0, hi0, hz0, hz1, hz2⟩ := info_parts info30
          by_cases q2 : x % 3 = 2
          · have hq : ((sfB x).toList == [95, 99, 114, 101, 97, 116, 101, 100]) = true := by unfold sfB; rw [if_neg (by omega), if_pos q2]; decide +kernel
            go_wp2_with (refine wpList_store_blk rfl 75 (.tmp 9) (.tmp 29) rfl _ rfl (smpC x fl) rfl smpZ (Blk.new wr 75 smpZ) size75 rfl (smpC_one _ _) ?_; intro w5 hS5 hG5; have HL5 : Hid (Below wr.heap.size wr w5) := after8.out w5 hS5 hG5; have HB5 : Hid (Blk w5 wr.heap.size 75 (smpC x fl)) := hS5; have e0 : w5.cell? ⟨wr.heap.size, 0, none⟩ = some (.string (sfB x)) := hS5.cell 0; clear hS5 hG5)
            have m0 : w5.cell? ⟨mb, 0, none⟩ = some (.slice none 0 0) := (HQ2.out.2.1.on HL5.out).cell 0
            have s5 : w5.cell? ⟨C, 5, none⟩ = some (.slice p2 (cres L) c2) := (HQ2.out.1.c.on HL5.out).cell 5
            have e3 : w5.cell? ⟨wr.heap.size, 3, none⟩ = some (.float .f64 fl) := HB5.out.cell 3
            have e4 : w5.cell? ⟨wr.heap.size, 4, none⟩ = some (.string ByteArray.empty) := HB5.out.cell 4
            have mlt : mb < w5.heap.size := (HQ2.out.2.1.on HL5.out).lt
            have clt : C < w5.heap.size := (HQ2.out.1.c.on HL5.out).lt
            have slt : wr.heap.size < w5.heap.size := HB5.out.lt
            have fc : w5.frozen? ⟨C, 5, none⟩ = false := (HQ2.out.1.c.on HL5.out).frozen 5
            clear d0 d1 d2 d3 d4 d5 e0 after8
            have HO1 : Hid (∀ u ∈ [Value.slice none 0 0, Value.slice (some ⟨w5.heap.size, 0, none⟩) 1 1], u.oneCell' = true) := by intro u hu; simp at hu; rcases hu with rfl | rfl <;> rfl
            have hN : Nonempty (R12 mb wr.heap.size C fl (.slice p2 (cres L) c2)) := ⟨⟨w5, m0, e3, e4, s5⟩⟩
            have k0 : ∀ p : R12 mb wr.heap.size C fl (.slice p2 (cres L) c2), p.w.cell? ⟨mb, 0, none⟩ = some (.slice none 0 0) := fun p => p.c0
            have k3 : ∀ p : R12 mb wr.heap.size C fl (.slice p2 (cres L) c2), p.w.cell? ⟨wr.heap.size, 3, none⟩ = some (.float .f64 fl) := fun p => p.c3
            have k4 : ∀ p : R12 mb wr.heap.size C fl (.slice p2 (cres L) c2), p.w.cell? ⟨wr.heap.size, 4, none⟩ = some (.string ByteArray.empty) := fun p => p.c4
            have k5 : ∀ p : R12 mb wr.heap.size C fl (.slice p2 (cres L) c2), p.w.cell? ⟨C, 5, none⟩ = some (.slice p2 (cres L) c2) := fun p => p.c5
            refine wp_region_mixed_calm (fun w' => ∃ p : R12 mb wr.heap.size C fl (.slice p2 (cres L) c2), w' = p.w) [0, 1, 2, 3, 4, 5, 6, 7, 8, 9, 10, 11] [12, 13, 14, 15, 16, 17, 18] 18 (by kernel_rfl) (by kernel_rfl) rfl (by kernel_rfl) ⟨⟨w5.drew, m0, e3, e4, s5⟩, rfl⟩ ?_
            simp only [List.filterMap_cons, List.filterMap_nil, List.getElem?_toArray, List.getElem?_cons_succ, List.getElem?_cons_zero]
            show wpQuiet _ _ _ _ [_, _, _, _, _, _, _, _, _, _, _, _] _
            iterate 12 (go_big_quiet_step (fail))
            refine wpQuiet_nil ?_
            clear k0 k3 k4 k5 hN
            show wpT _ _ _ _ _ _ w5.drew
            have HX1 : Hid (∀ o1, Blk (w5.alloc o1).drew mb 30 [.slice none 0 0, .slice (some ⟨sb, so, none⟩) k sc] ∧ Blk (w5.alloc o1).drew wr.heap.size 75 (smpC x fl) ∧ SpS w w.heap.size T C B nm ty prom (.slice (some ⟨b, o, none⟩) n mc) (w5.alloc o1).drew L (.slice p1 (tots L) c1) (.slice p2 (cres L) c2) xs1 xs2) := fun o1 => by
              have hx : Below w5.heap.size w5 (w5.alloc o1).drew := ((Below.refl _ w5).alloc (Nat.le_refl _) o1).drew
              exact ⟨(HQ2.out.2.1.on HL5.out).on hx, HB5.out.on hx, (HQ2.out.1.on HL5.out).on hx⟩
            have HX2 : Hid (∀ o1 o2, Blk ((w5.alloc o1).alloc o2).drew mb 30 [.slice none 0 0, .slice (some ⟨sb, so, none⟩) k sc] ∧ Blk ((w5.alloc o1).alloc o2).drew wr.heap.size 75 (smpC x fl) ∧ SpS w w.heap.size T C B nm ty prom (.slice (some ⟨b, o, none⟩) n mc) ((w5.alloc o1).alloc o2).drew L (.slice p1 (tots L) c1) (.slice p2 (cres L) c2) xs1 xs2) := fun o1 o2 => by
              have hx : Below w5.heap.size w5 ((w5.alloc o1).alloc o2).drew := (((Below.refl _ w5).alloc (Nat.le_refl _) o1).alloc (by simp) o2).drew
              exact ⟨(HQ2.out.2.1.on HL5.out).on hx, HB5.out.on hx, (HQ2.out.1.on HL5.out).on hx⟩
            have hBsz : B ≤ w5.heap.size := (HQ2.out.1.on HL5.out).o.2.2.2.2
            refine wpT_step rfl ?_
            go_wp2
            refine ⟨r12 (HX1.out _).1 (HX1.out _).2.1 (HX1.out _).2.2.c, ?_⟩
            refine wpT_step rfl ?_
            go_wp2
            refine ⟨r12 (HX1.out _).1 (HX1.out _).2.1 (HX1.out _).2.2.c, ?_⟩
            refine wpT_step rfl ?_
            go_wp2
            refine ⟨r12 (HX2.out _ _).1 (HX2.out _ _).2.1 (HX2.out _ _).2.2.c, ?_⟩
            refine wpT_step rfl ?_
            refine wpList_append_own_at _ rfl (.tmp 37) (.tmp 47) 27 rfl B 30 i0 _ 2 48 Yba.underlying27 hi0 hz0 hz1 hz2 rfl (by decide) _ (cres L) _ rfl (HX2.out _ _).2.2.r2 ⟨w5.heap.size + 1, 0, none⟩ 1 1 [.slice none 0 0, .slice (some ⟨w5.heap.size, 0, none⟩) 1 1] rfl rfl ?hnews HO1.out (by unfold maxLen; omega) (by omega) (by simp; omega) ?_
            case hnews => exact cells_two_new (w5.alloc _) _ (by simp) _ _ _
            intro v' w6 hO hG hnil hat
            obtain ⟨g', cap', rfl⟩ := own_succ hO
            have hc6 := (HX2.out _ _).2.2.cOn hG
            have hm6 : Blk w6 mb 30 [.slice none 0 0, .slice (some ⟨sb, so, none⟩) k sc] := (HX2.out _ _).1.kept hG (Ne.symm HQ2.out.2.2.2)
            have hs6 : Blk w6 wr.heap.size 75 (smpC x fl) := (HX2.out _ _).2.1.kept hG (fun e => by have := (HQ2.out.1.r2.lt _ e.symm).2; omega)
            have HNX : Hid (SpS w w.heap.size T C B nm ty prom (.slice (some ⟨b, o, none⟩) n mc) (w6.setCell ⟨C, 5, none⟩ (.slice (some ⟨g', 0, none⟩) (cres L + 1) cap')) (L ++ [x]) (.slice p1 (tots L) c1) (.slice (some ⟨g', 0, none⟩) (cres L + 1) cap') xs1 _) := (HX2.out _ _).2.2.addC hO hG hat q2
            have HNM : Hid (Blk (w6.setCell ⟨C, 5, none⟩ (.slice (some ⟨g', 0, none⟩) (cres L + 1) cap')) mb 30 [.slice none 0 0, .slice (some ⟨sb, so, none⟩) k sc]) := hm6.kept (grownBy_setCell w6 C 5 _) (by have := HQ2.out.1.o.2.2.2.1; simp; omega)
            have HNV : Hid ((Value.slice (some ⟨g', 0, none⟩) (cres L + 1) cap').ownBlock ≠ some mb) := by
              rcases hat with h1 | h1
              · rw [h1]; exact HQ2.out.2.2.2
              · rw [h1]; intro e; simp at e; omega
            have HNV1 : Hid ((Value.slice p1 (tots L) c1).ownBlock ≠ some mb) := HQ2.out.2.2.1
            have HR6 : Hid (∃ p : R12 mb wr.heap.size C fl (.slice p2 (cres L) c2), w6 = p.w) := r12 hm6 hs6 hc6
            have k1 : w6.cell? ⟨C, 5, none⟩ = some (.slice p2 (cres L) c2) := hc6.cell 5
            have k2 : w6.frozen? ⟨C, 5, none⟩ = false := hc6.frozen 5
            clear hO hG hnil hat hc6 hm6 hs6 HX1 HX2 HO1 HQ2 HL5 HB5 m0 s5 e3 e4 fc
            go_wp2
            refine ⟨HR6.out, ?_⟩
            refine wpT_step rfl ?_
            go_wp2
            refine ⟨HR6.out, ?_⟩
            refine wpT_step rfl ?_
            go_wp2
            refine ⟨HR6.out, ?_⟩
            refine wpT_last rfl ?_
            go_wp2
            simp only [noPanic]
            go_wp2
            refine ⟨⟨i + 1, rfl, by omega, ?_⟩, by simp [intOf]; omega⟩
            show ∃ v1 v2 xs1 xs2, _
            rw [HLX.out]
            exact ⟨_, _, _, _, HNX.out, HNM.out, HNV1.out, HNV.out⟩
          · have hq : ((sfB x).toList == [95, 99, 114, 101, 97, 116, 101, 100]) = false := by
              unfold sfB
              rw [if_neg q2]
              split <;> decide +kernel
            go_wp2_with (refine wpList_store_blk rfl 75 (.tmp 9) (.tmp 29) rfl _ rfl (smpC x fl) rfl smpZ (Blk.new wr 75 smpZ) size75 rfl (smpC_one _ _) ?_; intro w5 hS5 hG5; have HL5 : Hid (Below wr.heap.size wr w5) := after8.out w5 hS5 hG5; have HB5 : Hid (Blk w5 wr.heap.size 75 (smpC x fl)) := hS5; have e0 : w5.cell? ⟨wr.heap.size, 0, none⟩ = some (.string (sfB x)) := hS5.cell 0; clear hS5 hG5)
            have m0 : w5.cell? ⟨mb, 0, none⟩ = some (.slice none 0 0) := (HQ2.out.2.1.on HL5.out).cell 0
            have s5 : w5.cell? ⟨T, 5, none⟩ = some (.slice p1 (tots L) c1) := (HQ2.out.1.t.on HL5.out).cell 5
            have e3 : w5.cell? ⟨wr.heap.size, 3, none⟩ = some (.float .f64 fl) := HB5.out.cell 3
            have e4 : w5.cell? ⟨wr.heap.size, 4, none⟩ = some (.string ByteArray.empty) := HB5.out.cell 4
            have mlt : mb < w5.heap.size := (HQ2.out.2.1.on HL5.out).lt
            have clt : T < w5.heap.size := (HQ2.out.1.t.on HL5.out).lt
            have slt : wr.heap.size < w5.heap.size := HB5.out.lt
            have fc : w5.frozen? ⟨T, 5, none⟩ = false := (HQ2.out.1.t.on HL5.out).frozen 5
            clear d0 d1 d2 d3 d4 d5 e0 after8
            have HO1 : Hid (∀ u ∈ [Value.slice none 0 0, Value.slice (some ⟨w5.heap.size, 0, none⟩) 1 1], u.oneCell' = true) := by intro u hu; simp at hu; rcases hu with rfl | rfl <;> rfl
            have hN : Nonempty (R12 mb wr.heap.size T fl (.slice p1 (tots L) c1)) := ⟨⟨w5, m0, e3, e4, s5⟩⟩
            have k0 : ∀ p : R12 mb wr.heap.size T fl (.slice p1 (tots L) c1), p.w.cell? ⟨mb, 0, none⟩ = some (.slice none 0 0) := fun p => p.c0
            have k3 : ∀ p : R12 mb wr.heap.size T fl (.slice p1 (tots L) c1), p.w.cell? ⟨wr.heap.size, 3, none⟩ = some (.float .f64 fl) := fun p => p.c3
            have k4 : ∀ p : R12 mb wr.heap.size T fl (.slice p1 (tots L) c1), p.w.cell? ⟨wr.heap.size, 4, none⟩ = some (.string ByteArray.empty) := fun p => p.c4
            have k5 : ∀ p : R12 mb wr.heap.size T fl (.slice p1 (tots L) c1), p.w.cell? ⟨T, 5, none⟩ = some (.slice p1 (tots L) c1) := fun p => p.c5
            refine wp_region_mixed_calm (fun w' => ∃ p : R12 mb wr.heap.size T fl (.slice p1 (tots L) c1), w' = p.w) [0, 1, 2, 3, 4, 5, 6, 7, 8, 9, 10, 11] [12, 13, 14, 15, 16, 17, 18] 18 (by kernel_rfl) (by kernel_rfl) rfl (by kernel_rfl) ⟨⟨w5.drew, m0, e3, e4, s5⟩, rfl⟩ ?_
            simp only [List.filterMap_cons, List.filterMap_nil, List.getElem?_toArray, List.getElem?_cons_succ, List.getElem?_cons_zero]
            show wpQuiet _ _ _ _ [_, _, _, _, _, _, _, _, _, _, _, _] _
            iterate 12 (go_big_quiet_step (fail))
            refine wpQuiet_nil ?_
            clear k0 k3 k4 k5 hN
            show wpT _ _ _ _ _ _ w5.drew
            have HX1 : Hid (∀ o1, Blk (w5.alloc o1).drew mb 30 [.slice none 0 0, .slice (some ⟨sb, so, none⟩) k sc] ∧ Blk (w5.alloc o1).drew wr.heap.size 75 (smpC x fl) ∧ SpS w w.heap.size T C B nm ty prom (.slice (some ⟨b, o, none⟩) n mc) (w5.alloc o1).drew L (.slice p1 (tots L) c1) (.slice p2 (cres L) c2) xs1 xs2) := fun o1 => by
              have hx : Below w5.heap.size w5 (w5.alloc o1).drew := ((Below.refl _ w5).alloc (Nat.le_refl _) o1).drew
              exact ⟨(HQ2.out.2.1.on HL5.out).on hx, HB5.out.on hx, (HQ2.out.1.on HL5.out).on hx⟩
            have HX2 : Hid (∀ o1 o2, Blk ((w5.alloc o1).alloc o2).drew mb 30 [.slice none 0 0, .slice (some ⟨sb, so, none⟩) k sc] ∧ Blk ((w5.alloc o1).alloc o2).drew wr.heap.size 75 (smpC x fl) ∧ SpS w w.heap.size T C B nm ty prom (.slice (some ⟨b, o, none⟩) n mc) ((w5.alloc o1).alloc o2).drew L (.slice p1 (tots L) c1) (.slice p2 (cres L) c2) xs1 xs2) := fun o1 o2 => by
              have hx : Below w5.heap.size w5 ((w5.alloc o1).alloc o2).drew := (((Below.refl _ w5).alloc (Nat.le_refl _) o1).alloc (by simp) o2).drew
              exact ⟨(HQ2.out.2.1.on HL5.out).on hx, HB5.out.on hx, (HQ2.out.1.on HL5.out).on hx⟩
            have hBsz : B ≤ w5.heap.size := (HQ2.out.1.on HL5.out).o.2.2.2.2
            refine wpT_step rfl ?_
            go_wp2
            refine ⟨r12 (HX1.out _).1 (HX1.out _).2.1 (HX1.out _).2.2.t, ?_⟩
            refine wpT_step rfl ?_
            go_wp2
            refine ⟨r12 (HX1.out _).1 (HX1.out _).2.1 (HX1.out _).2.2.t, ?_⟩
            refine wpT_step rfl ?_
            go_wp2
            refine ⟨r12 (HX2.out _ _).1 (HX2.out _ _).2.1 (HX2.out _ _).2.2.t, ?_⟩
            refine wpT_step rfl ?_
            refine wpList_append_own_at _ rfl (.tmp 37) (.tmp 47) 27 rfl B 30 i0 _ 2 48 Yba.underlying27 hi0 hz0 hz1 hz2 rfl (by decide) _ (tots L) _ rfl (HX2.out _ _).2.2.r1 ⟨w5.heap.size + 1, 0, none⟩ 1 1 [.slice none 0 0, .slice (some ⟨w5.heap.size, 0, none⟩) 1 1] rfl rfl ?hnews HO1.out (by unfold maxLen; omega) (by omega) (by simp; omega) ?_
            case hnews => exact cells_two_new (w5.alloc _) _ (by simp) _ _ _
            intro v' w6 hO hG hnil hat
            obtain ⟨g', cap', rfl⟩ := own_succ hO
            have hc6 := (HX2.out _ _).2.2.tOn hG
            have hm6 : Blk w6 mb 30 [.slice none 0 0, .slice (some ⟨sb, so, none⟩) k sc] := (HX2.out _ _).1.kept hG (Ne.symm HQ2.out.2.2.1)
            have hs6 : Blk w6 wr.heap.size 75 (smpC x fl) := (HX2.out _ _).2.1.kept hG (fun e => by have := (HQ2.out.1.r1.lt _ e.symm).2; omega)
            have HNX : Hid (SpS w w.heap.size T C B nm ty prom (.slice (some ⟨b, o, none⟩) n mc) (w6.setCell ⟨T, 5, none⟩ (.slice (some ⟨g', 0, none⟩) (tots L + 1) cap')) (L ++ [x]) (.slice (some ⟨g', 0, none⟩) (tots L + 1) cap') (.slice p2 (cres L) c2) _ xs2) := (HX2.out _ _).2.2.addT hO hG hat q2
            have HNM : Hid (Blk (w6.setCell ⟨T, 5, none⟩ (.slice (some ⟨g', 0, none⟩) (tots L + 1) cap')) mb 30 [.slice none 0 0, .slice (some ⟨sb, so, none⟩) k sc]) := hm6.kept (grownBy_setCell w6 T 5 _) (by have := HQ2.out.1.o.2.2.2.1; have := HQ2.out.1.o.2.2.1; simp; omega)
            have HNV : Hid ((Value.slice (some ⟨g', 0, none⟩) (tots L + 1) cap').ownBlock ≠ some mb) := by
              rcases hat with h1 | h1
              · rw [h1]; exact HQ2.out.2.2.1
              · rw [h1]; intro e; simp at e; omega
            have HNV1 : Hid ((Value.slice p2 (cres L) c2).ownBlock ≠ some mb) := HQ2.out.2.2.2
            have HR6 : Hid (∃ p : R12 mb wr.heap.size T fl (.slice p1 (tots L) c1), w6 = p.w) := r12 hm6 hs6 hc6
            have k1 : w6.cell? ⟨T, 5, none⟩ = some (.slice p1 (tots L) c1) := hc6.cell 5
            have k2 : w6.frozen? ⟨T, 5, none⟩ = false := hc6.frozen 5
            clear hO hG hnil hat hc6 hm6 hs6 HX1 HX2 HO1 HQ2 HL5 HB5 m0 s5 e3 e4 fc
            go_wp2
            refine ⟨HR6.out, ?_⟩
            refine wpT_step rfl ?_
            go_wp2
            refine ⟨HR6.out, ?_⟩
            refine wpT_step rfl ?_
            go_wp2
            refine ⟨HR6.out, ?_⟩
            refine wpT_last rfl ?_
            go_wp2
            simp only [noPanic]
            go_wp2
            refine ⟨⟨i + 1, rfl, by omega, ?_⟩, by simp [intOf]; omega⟩
            show ∃ v1 v2 xs1 xs2, _
            rw [HLX.out]
            exact ⟨_, _, _, _, HNX.out, HNM.out, HNV.out, HNV1.out⟩
        · have hlt2' : ¬ (i : Int) < (k : Int) := by omega
          obtain rfl : k = i := by omega
          have HEN : Hid (∃ v1 v2 xs1 xs2, SpS w w.heap.size T C B nm ty prom (.slice (some ⟨b, o, none⟩) n mc) wr (M.take (j + 1)).flatten v1 v2 xs1 xs2) := by
            obtain ⟨v1, v2, xs1, xs2, h1, _⟩ := HQ.out
            rw [show ms.take k = ms from List.take_of_length_le (by have := HK.out; omega), ← HTK.out] at h1
            exact ⟨v1, v2, xs1, xs2, h1⟩
          clear HQ HS1
          go_wp2
          refine ⟨⟨j + 1, rfl, by omega, HEN⟩, by simp [intOf]; omega⟩
    · have hlt' : ¬ (j : Int) < (n : Int) := by omega
      obtain rfl : n = j := by omega
      obtain ⟨v1, v2, xs1, xs2, hsp⟩ := HH.out
      rw [List.take_of_length_le (by have := HN.out; omega)] at hsp
      obtain ⟨⟨p1, c1, rfl⟩, ⟨p2, c2, rfl⟩⟩ := hsp.form
      obtain ⟨q, hq⟩ : ∃ q, q = cres M.flatten := ⟨_, rfl⟩
      have HQQ : Hid (q = cres M.flatten) := hq
      obtain ⟨m1, hm1⟩ : ∃ m, m = tots M.flatten := ⟨_, rfl⟩
      have HM1 : Hid (m1 = tots M.flatten) := hm1
      have HT : Hid (Blk wr T 79 [.string (nm ++ ⟨#[95, 116, 111, 116, 97, 108]⟩), .string ⟨#[117, 110, 107, 110, 111, 119, 110]⟩, .string ByteArray.empty, .string ⟨#[104]⟩, .bool true, .slice p1 m1 c1]) := by rw [hm1]; exact hsp.t
      have HC : Hid (Blk wr C 79 [.string (nm ++ ⟨#[95, 99, 114, 101, 97, 116, 101, 100]⟩), .string ⟨#[103, 97, 117, 103, 101]⟩, .string ByteArray.empty, .string ⟨#[104]⟩, .bool false, .slice p2 q c2]) := by rw [hq]; exact hsp.c
      have HBL : Hid (Below w.heap.size w wr) := hsp.b
      have s5 : wr.cell? ⟨C, 5, none⟩ = some (.slice p2 q c2) := HC.out.cell 5
      clear hq hm1 hsp HH HS0
      have fin : Hid (∀ o1, Below w.heap.size w (wr.alloc o1)) := fun o1 => HBL.out.alloc HBL.out.size _
      by_cases h0 : q = 0
      · have HQ0 : Hid (cres M.flatten = 0) := by rw [← h0]; exact HQQ.out.symm
        subst h0
        go_wp2_with (refine wpList_load_blk rfl 79 (.tmp 4) rfl T rfl _ _ HT.out Yba.underlying79 size79 ?_)
        go_ret
        exact ⟨⟨.slice p1 (tots M.flatten) c1, .slice p2 (cres M.flatten) c2, wr.heap.size, HBL.out.size, ⟨p1, c1, rfl⟩, ⟨p2, c2, rfl⟩, .inl ⟨HQ0.out, rfl, by rw [← HM1.out]; exact Blk.new wr 79 _⟩⟩, fin.out _⟩
      · have h0' : ((q : Int) == 0) = false := by simp; omega
        have HQ0 : Hid (0 < cres M.flatten) := by rw [← HQQ.out]; exact Nat.pos_of_ne_zero h0
        clear h0
        go_wp2_with (first | (refine wpList_load_blk rfl 79 (.tmp 4) rfl T rfl _ _ HT.out Yba.underlying79 size79 ?_) | (refine wpList_load_blk rfl 79 (.tmp 5) rfl C rfl _ _ HC.out Yba.underlying79 size79 ?_))
        go_ret
        exact ⟨⟨.slice p1 (tots M.flatten) c1, .slice p2 (cres M.flatten) c2, wr.heap.size, HBL.out.size, ⟨p1, c1, rfl⟩, ⟨p2, c2, rfl⟩, .inr ⟨HQ0.out, rfl, by rw [← HM1.out, ← HQQ.out]; exact Blk.new wr 79 _⟩⟩, fin.out _⟩
end Go.Proofs.Ybulkadpk
