import Derived.Test.YbulkadpkWithKey
namespace Go.Proofs.Ybulkadpk
open Go.RowKit Go.QuietTail Go.Shelf
set_option linter.unusedVariables false
set_option linter.unusedSimpArgs false

theorem blF_ge (P : Nat → Bool) (f : Nat → ByteArray) : ∀ n s, ∀ x ∈ blF P f s n, s ≤ x.1 ∧ x.1 < s + n
  | 0, s, x, h => by simp [blF] at h
  | n + 1, s, x, h => by
    rw [blF] at h
    split at h
    · rcases List.mem_cons.1 h with rfl | h
      · exact ⟨Nat.le_refl _, by simp⟩
      · have := blF_ge P f n (s + 1) x h; omega
    · have := blF_ge P f n (s + 1) x h; omega
theorem small_bl (P : Nat → Bool) (f : Nat → ByteArray) : Small (blT P f 8) := fun x hx => by have := blF_ge P f 8 0 x hx; omega
theorem mrg_left (x : Lab) (l o : List Lab) (h : ∀ y ∈ o, x.1 < y.1) : mrg (x :: l) o = x :: mrg l o := by
  cases o with
  | nil => rw [mrg, mrg_nil_right]
  | cons y o => rw [mrg, if_pos (h y (by simp))]
theorem mrg_right (y : Lab) (l o : List Lab) (h : ∀ x ∈ l, y.1 < x.1) : mrg l (y :: o) = y :: mrg l o := by
  cases l with
  | nil => rw [mrg, mrg_nil_left]
  | cons x l => rw [mrg, if_neg (by have := h x (by simp); omega), if_pos (h x (by simp))]
theorem mrg_bl (P Q : Nat → Bool) (f g : Nat → ByteArray) : ∀ n s, mrg (blF P f s n) (blF Q g s n) = blF (fun j => Q j || P j) (fun j => if Q j then g j else f j) s n
  | 0, s => by simp [blF, mrg]
  | n + 1, s => by
    have ih := mrg_bl P Q f g n (s + 1)
    have hl : ∀ x ∈ blF P f (s + 1) n, s < x.1 := fun x hx => by have := blF_ge P f n (s + 1) x hx; omega
    have ho : ∀ x ∈ blF Q g (s + 1) n, s < x.1 := fun x hx => by have := blF_ge Q g n (s + 1) x hx; omega
    rw [blF, blF, blF]
    cases hP : P s <;> cases hQ : Q s
    · simpa using ih
    · simp only [Bool.false_eq_true, if_false, if_true, Bool.true_or]
      rw [mrg_right _ _ _ hl, ih]
    · simp only [Bool.false_eq_true, if_false, if_true, Bool.false_or]
      rw [mrg_left _ _ _ ho, ih]
    · simp only [if_true, Bool.true_or]
      rw [mrg, if_neg (Nat.lt_irrefl _), if_neg (Nat.lt_irrefl _), ih]

theorem info30 : (Yba.prog.info? 30).map (fun i => (i.zero, i.size, i.bytes)) = some (some (.agg #[.slice none 0 0, .slice none 0 0]), 2, 48) := by kernel_rfl
theorem made_met {w : World} {B g n : Nat} (h : w.ownsRow B 30 2 (.slice (some ⟨g, 0, none⟩) n n) n (madeCells #[.slice none 0 0, .slice none 0 0] (n * 2)).toList) (p : Nat → Prop) : g < w.heap.size ∧ ∀ k, k < n → MetAt w g k [] p := by
  rcases h.2 with ⟨h, _⟩ | ⟨g', cap', cur, h, hbg, hg, hnc, hcm, hcs, htake⟩
  · cases h
  · cases h
    have hlt : g < w.heap.size := by
      rcases Nat.lt_or_ge g w.heap.size with h | h
      · exact h
      · rw [Array.getElem?_eq_none h] at hg; cases hg
    have hc : ∀ j, j < n * 2 → w.cell? ⟨g, j, none⟩ = some (.slice none 0 0) := by
      intro j hj
      rw [cell_of_row w g _ cur 30 (0, 0) hg, ← Array.getElem?_toList]
      have e : cur.toList[j]? = (cur.toList.take (n * 2))[j]? := (List.getElem?_take_of_lt hj).symm
      rw [e, htake, Array.getElem?_toList]
      unfold madeCells
      rw [Array.getElem?_map]
      simp only [Array.getElem?_range, hj, if_true, Option.map_some]
      rcases Nat.mod_two_eq_zero_or_one j with h | h <;> simp [h]
    refine ⟨hlt, fun k hk => ⟨none, 0, hc _ (by omega), .inl ⟨rfl, rfl, rfl⟩, hc _ (by omega), frozen_of_row w g _ cur 30 hg⟩⟩

/-- The masks of the slice of bytes that came in. -/
def Masks (w : World) (a : Option Addr) (ms : List Nat) : Prop :=
  0 < ms.length → ∃ b o, a = some ⟨b, o, none⟩ ∧ ∀ i, i < ms.length → w.cell? ⟨b, o + i, none⟩ = some (.int .u8 (ms.getD i 0 : Nat))
theorem masks_later {w w' : World} {a : Option Addr} {ms : List Nat} (h : Masks w a ms) (hb : Below w.heap.size w w') : Masks w' a ms := by
  intro h0
  obtain ⟨b, o, e, hc⟩ := h h0
  exact ⟨b, o, e, fun i hi => (hb.cell (World.block_lt_of_cell? _ _ (hc i hi))).trans (hc i hi)⟩

/-- The labels that metric k is given ahead of withKey; key's; what is wanted behind. -/
def own (ms : List Nat) (ss : List ByteArray) (k : Nat) : List Lab := blT (bt (ms.getD k 0)) (vl ss k) 8
def keyL (km : Nat) (ks : List ByteArray) : List Lab := blT (bt km) (vl ks 0) 8

theorem MetAt.later {w w' : World} {mb k : Nat} {l : List Lab} {p : Nat → Prop} (h : MetAt w mb k l p) (hb : Below w.heap.size w w') : MetAt w' mb k l p := by
  obtain ⟨a, c, c1, hl, c2, fr⟩ := h
  have hlt := World.block_lt_of_cell? _ _ c1
  exact ⟨a, c, (hb.cell hlt).trans c1, hl.later hb, (hb.cell (World.block_lt_of_cell? _ _ c2)).trans c2, (hb.frozen hlt).trans fr⟩
theorem own_len (ms : List Nat) (ss : List ByteArray) (k : Nat) : (own ms ss k).length ≤ 8 := blT_len _ _ 8

set_option maxHeartbeats 4000000 in
set_option maxRecDepth 100000 in
theorem law_walk (am av ak : Option Addr) (cm cv ck : Nat) (ms : List Nat) (ss ks : List ByteArray) (km : Nat) (w : World) (hM : Masks w am ms) (hms : ∀ m ∈ ms, m < 256) (hS : Strs w av ss) (hK : Strs w ak ks) (hkm : km < 256)
    (ls : ss.length ≤ 9223372036854775807) (lks : ks.length ≤ 9223372036854775807) (hn : ms.length ≤ 512) :
    Calls Yba.prog 3 #[.slice am ms.length cm, .slice av ss.length cv, .int .u8 km, .slice ak ks.length ck] w fun e w' => e = .returned (.bool true) ∧ Below w.heap.size w w' := by
  obtain ⟨j0, hj0, hw0, hw1, hw2⟩ := info_parts info30
  obtain ⟨i0, hi0, hz0, hz1, hz2⟩ := info_parts info36
  have HMs : Hid (Masks w am ms) := hM
  have HSs : Hid (Strs w av ss) := hS
  have HKs : Hid (Strs w ak ks) := hK
  have Hms : Hid (∀ m ∈ ms, m < 256) := hms
  obtain ⟨n, hnn⟩ : ∃ n, n = ms.length := ⟨_, rfl⟩
  have HN : Hid (n = ms.length) := hnn
  rw [← hnn] at hn ⊢
  have hn1 : ¬ (512 : Int) < (n : Int) := by omega
  clear hM hS hK hms hnn
  go_enter Yba.func3, Yba.ntmps3
  go_wp2_with (first
    | (go_at_call 5; refine (build_any km ak ks ck 0 w HKs.out lks hkm (by omega)).mono ?_; rintro e w1 ⟨a1, c1, rfl, hL1, hB1⟩)
    | (at_make; refine wpList_make_full _ rfl _ _ 27 rfl w.heap.size 30 j0 _ 2 Yba.underlying27 hj0 hw0 hw1 _ _ _ _ n rfl rfl rfl rfl (by rw [hw2]; omega) (by unfold maxLen; omega) hB1.size ?_))
  intro w2 hown hgrow
  obtain ⟨key, hkey⟩ : ∃ key, key = keyL km ks := ⟨_, rfl⟩
  have HKey : Hid (key = keyL km ks) := hkey
  have hL1' : LabsAt w1 a1 c1 key (fun b => w.heap.size ≤ b) := by rw [hkey]; exact hL1
  have hlen : (blT (bt km) (vl ks 0) 8).length = key.length := by rw [hkey]; rfl
  rw [hlen]
  obtain ⟨mlt, hmet⟩ := made_met hown (fun b => b ≠ w1.heap.size)
  have M2 : Hid (∀ k, k < n → MetAt w2 w1.heap.size k [] (fun b => b ≠ w1.heap.size)) := hmet
  have B2 : Hid (Below w.heap.size w w2) := hB1.grown hgrow hB1.size (fun k hk => by cases hk)
  have K2 : Hid (LabsAt w2 a1 c1 key (fun b => b ≠ w1.heap.size)) := (hL1'.mono (fun b _ hb => by omega)).kept hgrow.size (fun b _ hb => hgrow.block b hb (by simp))
  have hmbw : w.heap.size ≤ w1.heap.size := hB1.size
  clear hown hgrow hL1 hL1' hB1 hmet hkey hlen
  generalize w1.heap.size = mb at *
  go_wp2
  go_loopw [11] (fun vi wr => ∃ i : Nat, i ≤ n ∧ vi = .int .i64 i ∧ Hid (Below w.heap.size w wr) ∧ Hid (LabsAt wr a1 c1 key (fun b => b ≠ mb)) ∧ Hid (mb < wr.heap.size) ∧
    Hid (∀ k, k < n → MetAt wr mb k (if k < i then own ms ss k else []) (fun b => b ≠ mb))) (fun vi _ => n - (intOf vi).toNat)
  case atStart => exact ⟨0, by omega, rfl, B2, K2, mlt, fun k hk => by simpa using M2.out k hk⟩
  case round =>
    obtain ⟨i, hi, rfl, HB, HK, HLt, HM⟩ := hrel
    clear M2 B2 K2
    by_cases hlt : i < n
    · have hlt' : (i : Int) < (n : Int) := by omega
      obtain ⟨b, o, rfl, hmc⟩ := masks_later HMs.out HB.out (by rw [← HN.out]; omega)
      have hc := hmc i (by rw [← HN.out]; exact hlt)
      have hm256 : ms.getD i 0 < 256 := Hms.out _ (by rw [List.getD_eq_getElem?_getD, List.getElem?_eq_getElem (by rw [← HN.out]; exact hlt)]; simp)
      obtain ⟨a, c, d1, _, d2, fr⟩ := HM.out i hlt
      obtain ⟨m, hm⟩ : ∃ m, m = ms.getD i 0 := ⟨_, rfl⟩
      have Hm : Hid (m = ms.getD i 0) := hm
      have HSw : Hid (Strs wr av ss) := strs_later HSs.out HB.out
      rw [← hm] at hc hm256
      clear hm hmc
      go_wp2_with (go_at_call 5; refine (build_any m av ss cv i wr HSw.out ls hm256 (by omega)).mono ?_; rintro e w3 ⟨a3, c3, rfl, hL3, hB3⟩
                   have L3 : Hid (LabsAt w3 a3 c3 (own ms ss i) (fun b => wr.heap.size ≤ b)) := by show LabsAt w3 a3 c3 (own ms ss i) _; unfold own; rw [← Hm.out]; exact hL3
                   have B3 : Hid (Below wr.heap.size wr w3) := hB3
                   have d1' := (hB3.cell (World.block_lt_of_cell? _ _ d1)).trans d1
                   have fr' := (hB3.frozen (World.block_lt_of_cell? _ _ d1)).trans fr
                   clear hL3 hB3)
      go_roundw
      case rel =>
        refine ⟨i + 1, by omega, by simp, (HB.out.trans (B3.out.mono HB.out.size)).setCell hmbw _, (HK.out.later B3.out).kept (by simp) (fun b pb _ => heap_setCell_other _ _ _ _ pb), ?_, fun k hk => ?_⟩
        · show mb < _
          simp; exact Nat.lt_of_lt_of_le HLt.out B3.out.size
        · by_cases hki : k = i
          · subst hki
            rw [if_pos (by omega)]
            refine ⟨a3, c3, ?_, (L3.out.mono (q := fun b => b ≠ mb) (fun b hb _ => by have := HLt.out; omega)).kept (by simp) (fun b pb _ => heap_setCell_other _ _ _ _ pb), ?_, by simpa using fr'⟩
            · have e : (blT (bt m) (vl ss k) 8).length = (own ms ss k).length := by unfold own; rw [← Hm.out]
              rw [e]
              exact World.cell?_setCell_same _ _ _ d1'
            · rw [World.cell?_setCell_other (h := addr_ne1 mb k k)]
              exact (B3.out.cell (World.block_lt_of_cell? _ _ d2)).trans d2
          · have h := ((HM.out k hk).later B3.out).setCell i hki (fun b hb => hb) (.slice a3 (blT (bt m) (vl ss i) 8).length c3)
            have e : (if k < i + 1 then own ms ss k else []) = (if k < i then own ms ss k else []) := by split <;> split <;> first | rfl | omega
            rw [e]
            exact h
      case measure => simp [intOf]; omega
    · obtain rfl : n = i := by omega
      have MM : Hid (∀ k, k < n → MetAt wr mb k (own ms ss k) (fun b => b ≠ mb ∧ b < wr.heap.size)) := fun k hk => by
        obtain ⟨a, c, q1, q2, q3, q4⟩ := HM.out k hk
        rw [if_pos hk] at q1 q2
        exact ⟨a, c, q1, q2.mono (fun b hb hlt => ⟨hb, hlt⟩), q3, q4⟩
      have KM : Hid (LabsAt wr a1 c1 key (fun b => b ≠ mb ∧ b < wr.heap.size)) := HK.out.mono (fun b hb hlt => ⟨hb, hlt⟩)
      have WK : Hid (Calls Yba.prog 6 #[.slice (some ⟨mb, 0, none⟩) n n, .slice a1 key.length c1] wr fun e w' => e = .returned (.tuple #[]) ∧ wr.grownBy w' (some mb) ∧
          ∀ k, k < n → ∃ a, w'.cell? ⟨mb, k * 2, none⟩ = some (.slice a (mrg (own ms ss k) key).length (mrg (own ms ss k) key).length) ∧ LabsAt w' a (mrg (own ms ss k) key).length (mrg (own ms ss k) key) (fun _ => True)) :=
        withKey_any mb n (own ms ss) a1 c1 key _ wr MM.out KM.out (fun b hb => hb) HLt.out hn (fun k => small_bl _ _) (own_len ms ss) (by rw [HKey.out]; exact small_bl _ _) (by rw [HKey.out]; exact blT_len _ _ 8)
      have HKw : Hid (Strs wr ak ks) := strs_later HKs.out HB.out
      go_wp2_with (first
        | (go_at_call 6; refine WK.out.mono ?_; rintro e w4 ⟨rfl, hG4, hD4⟩
           have G4 : Hid (wr.grownBy w4 (some mb)) := hG4
           have D4 : Hid (∀ k, k < n → ∃ a, w4.cell? ⟨mb, k * 2, none⟩ = some (.slice a (mrg (own ms ss k) key).length (mrg (own ms ss k) key).length) ∧ LabsAt w4 a (mrg (own ms ss k) key).length (mrg (own ms ss k) key) (fun _ => True)) := hD4
           have B4 : Hid (Below w.heap.size w w4) := HB.out.grown hG4 HB.out.size (fun k hk => by cases hk; exact hmbw)
           have K4 : Hid (LabsAt w4 a1 c1 key (fun b => b ≠ mb)) := HK.out.kept hG4.size (fun b hb hlt => hG4.block b hlt (by simpa using hb))
           have S4 : Hid (Strs w4 ak ks) := strs_later HKs.out B4.out
           clear hG4 hD4)
        | (go_at_call 5; refine (build_any km ak ks ck 0 w4 S4.out lks hkm (by omega)).mono ?_; rintro e w5 ⟨a5, c5, rfl, hL5, hB5⟩
           have L5 : Hid (LabsAt w5 a5 c5 key (fun _ => True)) := by have h := hL5.mono (q := fun _ => True) (fun _ _ _ => trivial); show LabsAt w5 a5 c5 key _; rw [HKey.out]; exact h
           have B5 : Hid (Below w4.heap.size w4 w5) := hB5
           have e5 : (blT (bt km) (vl ks 0) 8).length = key.length := by rw [HKey.out]; rfl
           clear hL5 hB5
           rw [e5]
           clear e5)
        | (go_at_call 7; refine (eq_same a1 a5 c1 c5 key _ _ w5 (K4.out.later B5.out) L5.out).mono ?_; rintro e w6 ⟨rfl, hB6⟩
           have B6 : Hid (Below w5.heap.size w5 w6) := hB6
           clear hB6))
      have B46 : Hid (Below w4.heap.size w4 w6) := B5.out.trans (B6.out.mono B5.out.size)
      have W6 : Hid (Below w.heap.size w w6) := B4.out.trans (B46.out.mono B4.out.size)
      have D6 : Hid (∀ k, k < n → ∃ a, w6.cell? ⟨mb, k * 2, none⟩ = some (.slice a (mrg (own ms ss k) key).length (mrg (own ms ss k) key).length) ∧ LabsAt w6 a (mrg (own ms ss k) key).length (mrg (own ms ss k) key) (fun _ => True)) := fun k hk => by
        obtain ⟨a, q1, q2⟩ := D4.out k hk
        exact ⟨a, (B46.out.cell (World.block_lt_of_cell? _ _ q1)).trans q1, q2.later B46.out⟩
      clear B46 B5 B6 D4 L5 K4 S4 B4 G4 WK HKw MM KM HM HK HLt HB
      go_loopw [12] (fun vi wr => ∃ i : Nat, i ≤ n ∧ vi = .int .i64 i ∧ Hid (Below w6.heap.size w6 wr)) (fun vi _ => n - (intOf vi).toNat)
      case atStart => exact ⟨0, by omega, rfl, Below.refl _ _⟩
      case round =>
        obtain ⟨i, hi2, rfl, HB⟩ := hrel
        by_cases hlt : i < n
        · have hlt' : (i : Int) < (n : Int) := by omega
          have HWr : Hid (Below w.heap.size w wr) := W6.out.trans (HB.out.mono W6.out.size)
          obtain ⟨b, o, rfl, hmc⟩ := masks_later HMs.out HWr.out (by rw [← HN.out]; omega)
          have hc := hmc i (by rw [← HN.out]; exact hlt)
          have hm256 : ms.getD i 0 < 256 := Hms.out _ (by rw [List.getD_eq_getElem?_getD, List.getElem?_eq_getElem (by rw [← HN.out]; exact hlt)]; simp)
          obtain ⟨m, hm⟩ : ∃ m, m = ms.getD i 0 := ⟨_, rfl⟩
          have Hm : Hid (m = ms.getD i 0) := hm
          rw [← hm] at hc hm256
          clear hm hmc
          obtain ⟨a, q1, q2⟩ := D6.out i hlt
          have d1 := (HB.out.cell (World.block_lt_of_cell? _ _ q1)).trans q1
          have LG : Hid (LabsAt wr a (mrg (own ms ss i) key).length (mrg (own ms ss i) key) (fun _ => True)) := q2.later HB.out
          obtain ⟨PQ, hPQ⟩ : ∃ PQ, PQ = (fun j => bt km j || bt m j) := ⟨_, rfl⟩
          obtain ⟨fg, hfg⟩ : ∃ fg, fg = (fun j => if bt km j then vl ks 0 j else vl ss i j) := ⟨_, rfl⟩
          have HR : Hid (mrg (own ms ss i) key = blT PQ fg 8) := by
            show mrg (own ms ss i) key = blT PQ fg 8
            rw [HKey.out, hPQ, hfg, Hm.out]; exact mrg_bl _ _ _ _ 8 0
          have HPQ : Hid (PQ = (fun j => bt km j || bt m j)) := hPQ
          have HFG : Hid (fg = (fun j => if bt km j then vl ks 0 j else vl ss i j)) := hfg
          rw [show (mrg (own ms ss i) key).length = (blT PQ fg 8).length by rw [HR.out]] at d1
          have LG2 : Hid (LabsAt wr a (blT PQ fg 8).length (blT PQ fg 8) (fun _ => True)) := by have := LG.out; rw [HR.out] at this; exact this
          clear hPQ hfg q1 q2 LG HR
          obtain ⟨lR, hlR⟩ : ∃ x, x = (blT PQ fg 8).length := ⟨_, rfl⟩
          have HlR : Hid (lR = (blT PQ fg 8).length) := hlR
          rw [← hlR] at d1
          clear hlR
          go_wp2_with (at_make; refine wpList_make_own _ rfl _ _ 25 rfl wr.heap.size 36 i0 _ 2 Yba.underlying25 hi0 hz0 hz1 _ _ _ 8 rfl rfl rfl (by rw [hz2]; decide) (by decide) (Nat.le_refl _) ?_)
          intro w7 hown hgrow
          have B7 : Hid (Below wr.heap.size wr w7) := (Below.refl _ wr).grown hgrow (Nat.le_refl _) (fun k hk => by cases hk)
          have O7 : Hid (w7.ownsRow wr.heap.size 36 2 (.slice (some ⟨wr.heap.size, 0, none⟩) 0 8) 0 (flat (blT PQ fg 0))) := hown
          have SK : Hid (Strs wr ak ks) := strs_later HKs.out HWr.out
          have SV : Hid (Strs wr av ss) := strs_later HSs.out HWr.out
          obtain ⟨g, hg⟩ : ∃ g, g = wr.heap.size := ⟨_, rfl⟩
          have Hg : Hid (g = wr.heap.size) := hg
          rw [← hg] at B7 O7 ⊢
          clear hown hgrow hg
          obtain ⟨wo, rfl⟩ : ∃ wo, wo = wr := ⟨wr, rfl⟩
          go_wp2
          go_loopw [16, 15] (fun vj vs wq => ∃ j q : Nat, j ≤ 8 ∧ vj = .int .i64 j ∧ vs = .slice (some ⟨g, 0, none⟩) q 8 ∧ Hid (q = (blT PQ fg j).length) ∧ q ≤ j ∧
            Hid (wq.ownsRow g 36 2 (.slice (some ⟨g, 0, none⟩) q 8) q (flat (blT PQ fg j))) ∧ Hid (Below g wo wq)) (fun vj _ _ => 8 - (intOf vj).toNat)
          case atStart => exact ⟨0, 0, by omega, rfl, rfl, rfl, by omega, O7, B7⟩
          case round =>
            obtain ⟨wq, rfl⟩ : ∃ wq, wq = wr := ⟨wr, rfl⟩
            obtain ⟨j, q, hj, rfl, rfl, HQ, hq, O, B⟩ := hrel
            clear O7 B7
            by_cases hlt2 : j < 8
            · have hlt2' : (j : Int) < 8 := by omega
              cases hkb : bt km j with
              | true =>
                have hkb' : (bits BinOp.and IntKind.u8 ((km : Int) / 2 ^ j) 1 == 1) = true := hkb
                have HPj : Hid (PQ j = true) := by rw [HPQ.out]; show (bt km j || bt m j) = true; rw [hkb]; rfl
                have HFj : Hid (fg j = vl ks 0 j) := by rw [HFG.out]; show (if bt km j then _ else _) = _; rw [hkb]; rfl
                obtain ⟨kk, HKk, hkk, hsl⟩ := slice_abc j hlt2
                have GZ : Hid (g ≤ wq.heap.size) := by have h := B.out.size; rw [Hg.out]; exact h
                have HS : Hid (Strs wq.drew ak ks) := strs_later SK.out (by have h := B.out.drew; rw [Hg.out] at h; exact h)
                have OD : Hid (∀ o, (wq.drew.alloc o).ownsRow g 36 2 (.slice (some ⟨g, 0, none⟩) q 8) q (flat (blT PQ fg j))) := fun o => World.ownsRow.alloc (w := wq.drew) O.out o
                have HC : Hid (∀ u ∈ [Value.string (nm j), Value.string (vl ks 0 j)], u.oneCell' = true) := by intro u hu; simp at hu; rcases hu with rfl | rfl <;> rfl
                go_wp2
                go_region_law (first
                  | (refine step_val rfl (.tmp 97) (.const (.int .i64 0)) (.tmp 98) _ rfl (.slice ak ks.length ck) (.int .i64 ((0 : Nat) : Int)) (.int .i64 j) (.string (vl ks 0 j)) (by simp [Act.eval, Act.put]) (by simp [Act.eval, Act.put]) (by simp [Act.eval, Act.put]) (val_any ak ks ck 0 j wq.drew HS.out lks (by omega) hlt2) ?_)
                  | (refine step_append_fits rfl (.tmp 92) (.tmp 101) 25 rfl g 36 i0 2 Yba.underlying25 hi0 hz1 g q 8 _ (by simp [Act.eval, Act.put]) (OD.out _) ⟨wq.heap.size, 0, none⟩ 1 1 [.string (nm j), .string (vl ks 0 j)] (by simp [Act.eval, Act.put]) rfl (cells_two_new wq.drew _ rfl _ _ _) HC.out (by omega) ?_; intro w8 hO8 hG8))
                all_goals
                  have O8 : Hid (w8.ownsRow g 36 2 (.slice (some ⟨g, 0, none⟩) (q + 1) 8) (q + 1) (flat (blT PQ fg (j + 1)))) := by
                    rw [blT_succ, HPj.out, HFj.out, flat_append]; exact hO8
                  have B8 : Hid (Below g wo w8) := ((B.out.drew.alloc GZ.out _).grown hG8 (by simp; exact Nat.le_succ_of_le GZ.out) (fun k hk => by cases hk; exact Nat.le_refl _))
                  have L8 : Hid (q + 1 = (blT PQ fg (j + 1)).length) := by rw [blT_succ, HPj.out]; have := HQ.out; simp; omega
                  clear hO8 hG8 O B HQ OD HS HC
                  clear hkk hsl
                  obtain rfl := HKk.out
                  go_wp2
                  go_roundw
                  case rel => exact ⟨j + 1, q + 1, by omega, by simp, rfl, L8, by omega, O8, B8⟩
                  case measure => simp [intOf]; omega
              | false =>
                have hkb' : (bits BinOp.and IntKind.u8 ((km : Int) / 2 ^ j) 1 == 1) = false := hkb
                cases hmb : bt m j with
                | true =>
                  have hmb' : (bits BinOp.and IntKind.u8 ((m : Int) / 2 ^ j) 1 == 1) = true := hmb
                  have HPj : Hid (PQ j = true) := by rw [HPQ.out]; show (bt km j || bt m j) = true; rw [hkb, hmb]; rfl
                  have HFj : Hid (fg j = vl ss i j) := by rw [HFG.out]; show (if bt km j then _ else _) = _; rw [hkb]; rfl
                  obtain ⟨kk, HKk, hkk, hsl⟩ := slice_abc j hlt2
                  have GZ : Hid (g ≤ wq.heap.size) := by have h := B.out.size; rw [Hg.out]; exact h
                  have HS : Hid (Strs wq.drew av ss) := strs_later SV.out (by have h := B.out.drew; rw [Hg.out] at h; exact h)
                  have OD : Hid (∀ o, (wq.drew.alloc o).ownsRow g 36 2 (.slice (some ⟨g, 0, none⟩) q 8) q (flat (blT PQ fg j))) := fun o => World.ownsRow.alloc (w := wq.drew) O.out o
                  have HC : Hid (∀ u ∈ [Value.string (nm j), Value.string (vl ss i j)], u.oneCell' = true) := by intro u hu; simp at hu; rcases hu with rfl | rfl <;> rfl
                  go_wp2
                  go_region_law (first
                    | (refine step_val rfl (.tmp 109) (.tmp 110) (.tmp 111) _ rfl (.slice av ss.length cv) (.int .i64 (i : Int)) (.int .i64 j) (.string (vl ss i j)) (by simp [Act.eval, Act.put]) (by simp [Act.eval, Act.put]) (by simp [Act.eval, Act.put]) (val_any av ss cv i j wq.drew HS.out ls (by omega) hlt2) ?_)
                    | (refine step_append_fits rfl (.tmp 104) (.tmp 114) 25 rfl g 36 i0 2 Yba.underlying25 hi0 hz1 g q 8 _ (by simp [Act.eval, Act.put]) (OD.out _) ⟨wq.heap.size, 0, none⟩ 1 1 [.string (nm j), .string (vl ss i j)] (by simp [Act.eval, Act.put]) rfl (cells_two_new wq.drew _ rfl _ _ _) HC.out (by omega) ?_; intro w8 hO8 hG8))
                  all_goals
                    have O8 : Hid (w8.ownsRow g 36 2 (.slice (some ⟨g, 0, none⟩) (q + 1) 8) (q + 1) (flat (blT PQ fg (j + 1)))) := by
                      rw [blT_succ, HPj.out, HFj.out, flat_append]; exact hO8
                    have B8 : Hid (Below g wo w8) := ((B.out.drew.alloc GZ.out _).grown hG8 (by simp; exact Nat.le_succ_of_le GZ.out) (fun k hk => by cases hk; exact Nat.le_refl _))
                    have L8 : Hid (q + 1 = (blT PQ fg (j + 1)).length) := by rw [blT_succ, HPj.out]; have := HQ.out; simp; omega
                    clear hO8 hG8 O B HQ OD HS HC
                    clear hkk hsl
                    obtain rfl := HKk.out
                    go_wp2
                    go_roundw
                    case rel => exact ⟨j + 1, q + 1, by omega, by simp, rfl, L8, by omega, O8, B8⟩
                    case measure => simp [intOf]; omega
                | false =>
                  have hmb' : (bits BinOp.and IntKind.u8 ((m : Int) / 2 ^ j) 1 == 1) = false := hmb
                  have HPj : Hid (PQ j = false) := by rw [HPQ.out]; show (bt km j || bt m j) = false; rw [hkb, hmb]; rfl
                  go_wp2
                  go_roundw
                  case rel => exact ⟨j + 1, q, by omega, by simp, rfl, by rw [blT_succ, HPj.out, if_neg (by decide), List.append_nil]; exact HQ, by omega, by rw [blT_succ, HPj.out, if_neg (by decide), List.append_nil]; exact O, B⟩
                  case measure => simp [intOf]; omega
            · obtain rfl : j = 8 := by omega
              have LW : Hid (LabsAt wq (some ⟨g, 0, none⟩) 8 (blT PQ fg 8) (fun _ => True)) := LabsAt.own HQ.out O.out _ trivial
              have Bw : Hid (Below wo.heap.size wo wq) := by rw [← Hg.out]; exact B
              have EQ : Hid (∀ l, l = lR → Calls Yba.prog 7 #[.slice a l lR, .slice (some ⟨g, 0, none⟩) q 8] wq fun e w' => e = .returned (.bool true) ∧ Below wq.heap.size wq w') := by
                rintro l rfl
                rw [HQ.out, HlR.out]; exact eq_same a (some ⟨g, 0, none⟩) _ 8 (blT PQ fg 8) _ _ wq (LG2.out.later Bw.out) LW.out
              go_wp2_with (go_at_call 7; refine (EQ.out lR rfl).mono ?_; rintro e w9 ⟨rfl, hB9⟩
                           have B9 : Hid (Below wq.heap.size wq w9) := hB9
                           clear hB9)
              go_roundw
              case rel => exact ⟨i + 1, by omega, by simp, HB.out.trans ((Bw.out.trans (B9.out.mono Bw.out.size)).mono HB.out.size)⟩
              case measure => simp [intOf]; omega
        · obtain rfl : n = i := by omega
          go_wp2
          go_ret
          exact ⟨rfl, W6.out.trans (HB.out.mono W6.out.size)⟩
end Go.Proofs.Ybulkadpk
