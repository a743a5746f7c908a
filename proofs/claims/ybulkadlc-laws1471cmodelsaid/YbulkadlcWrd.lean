import Derived.Test.YbulkadlcRep
namespace Go.Proofs.Ybulkadlc
open Go.RowKit Go.QuietTail
set_option linter.unusedVariables false
set_option linter.unusedSimpArgs false

def ofW (h l : Int) : List Int := put8 (put8 zero16 0 h) 8 l
theorem ofW_ok {h l : Int} (h0 : 0 ≤ h) (h1 : h < 18446744073709551616) (l0 : 0 ≤ l) (l1 : l < 18446744073709551616) : IdOk (ofW h l) := put8_ok (put8_ok zero16_ok 0 h h0 h1) 8 l l0 l1
set_option maxHeartbeats 2000000 in
theorem fromWords_any (h l : Int) (h0 : 0 ≤ h) (h1 : h < 18446744073709551616) (l0 : 0 ≤ l) (l1 : l < 18446744073709551616) (w : World) :
    Calls Yba.prog 13 #[.int .u64 h, .int .u64 l] w fun e w' => e = .returned (idv (ofW h l)) ∧ Below w.heap.size w w' := by
  have hB0 : Below w.heap.size w ((w.alloc (.cells (cellsId zero16).toArray 23)).alloc (.cells (cellsId zero16).toArray 23)) := ((Below.refl _ w).alloc (Nat.le_refl _) _).alloc (by simp) _
  have hR0 : Blk ((w.alloc (.cells (cellsId zero16).toArray 23)).alloc (.cells (cellsId zero16).toArray 23)) w.heap.size zero16 := (Blk.new w zero16).alloc _
  have hZ0 : Blk ((w.alloc (.cells (cellsId zero16).toArray 23)).alloc (.cells (cellsId zero16).toArray 23)) (w.heap.size + 1) zero16 := by have := Blk.new (w.alloc (.cells (cellsId zero16).toArray 23)) zero16; simpa using this
  obtain ⟨d, hdd⟩ : ∃ d, d = ofW h l := ⟨_, rfl⟩
  have HDD : Hid (d = ofW h l) := hdd
  rw [← hdd]
  clear hdd
  go_enter Yba.func13, Yba.ntmps13
  go_wp2
  change Code.wp _ _ _ _ ((w.alloc (.cells (cellsId zero16).toArray 23)).alloc (.cells (cellsId zero16).toArray 23))
  generalize (w.alloc (.cells (cellsId zero16).toArray 23)).alloc (.cells (cellsId zero16).toArray 23) = W2 at *
  refine wp_region_drew_tail 3 (by kernel_rfl) (by kernel_rfl) ?_
  simp only [List.take_succ_cons, List.take_zero, List.drop_succ_cons, List.drop_zero]
  iterate 3 (go_big_quiet_step (fail))
  refine wpQuiet_nil ?_
  intro w3 hw3
  obtain ⟨n3, rfl⟩ := hw3
  go_wp2_with fail
  refine (put64_any (w.heap.size + 1) 0 _ _ zero16 h (W2.drewN n3) hZ0 rfl (by omega) (by omega) h0 h1).mono ?_
  rintro e w4 ⟨rfl, hZ4, hg4⟩
  have hR4 := (show Blk (W2.drewN n3) w.heap.size zero16 from hR0).kept hg4 (by simp)
  have hB4 := (below_drewN hB0 n3).grown hg4 (by have := hB0.size; simpa using this) (by rintro k ⟨⟩; omega)
  clear hR0 hB0 hZ0 hg4
  go_wp2
  refine wp_region_drew_tail 3 (by kernel_rfl) (by kernel_rfl) ?_
  simp only [List.take_succ_cons, List.take_zero, List.drop_succ_cons, List.drop_zero]
  iterate 3 (go_big_quiet_step (fail))
  refine wpQuiet_nil ?_
  intro w5 hw5
  obtain ⟨n5, rfl⟩ := hw5
  go_wp2_with fail
  refine (put64_any (w.heap.size + 1) 8 _ _ (put8 zero16 0 h) l (w4.drewN n5) hZ4 (by rw [put8_len]; rfl) (by omega) (by omega) l0 l1).mono ?_
  rintro e w6 ⟨rfl, hZ6, hg6⟩
  have hR6 := (show Blk (w4.drewN n5) w.heap.size zero16 from hR4).kept hg6 (by simp)
  have hB6 := (below_drewN hB4 n5).grown hg6 (by have := hB4.size; simpa using this) (by rintro k ⟨⟩; omega)
  clear hR4 hB4 hZ4 hg6
  have hd : IdOk d := by rw [HDD.out]; exact ofW_ok h0 h1 l0 l1
  have hZ7 : Blk w6 (w.heap.size + 1) d := by rw [HDD.out]; exact hZ6
  clear hZ6
  go_wp2_with (first | (refine wpList_load_id rfl (.tmp 5) rfl _ rfl d hd.1 hZ7 ?_) | (refine wpList_store_id rfl (.tmp 4) (.tmp 14) rfl _ rfl d hd.1 rfl zero16 rfl hR6 ?_; intro w7 hR7 hg7))
  refine bodyPost_ret (v := idv d) (results_cell_row Yba.results13 _ _ w.heap.size 23 _ (0, 0) _ rfl hR7 Yba.underlying23 rfl (by rw [info23]; simp [cellsId, hd.1])) rfl ?_
  exact ⟨rfl, hB6.grown hg7 hB6.size (by rintro k ⟨⟩; omega)⟩

set_option maxHeartbeats 1000000 in
theorem has_some (b o c : Nat) (ss : List (List Int)) (d : List Int) (hd : IdOk d) (hok : IsOk ss) (hl : ss.length ≤ 4096) (w : World) (hb : b < w.heap.size) (hr : ∀ j x, ss[j]? = some x → w.rangeAt b (o + j * 16) (cellsId x)) :
    Calls Yba.prog 17 #[.slice (some ⟨b, o, none⟩) ss.length c, idv d] w fun e w' => e = .returned (.bool (decide (d ∈ ss))) ∧ Below w.heap.size w w' := by
  obtain ⟨n, hn⟩ : ∃ n, n = ss.length := ⟨_, rfl⟩
  have HN : Hid (n = ss.length) := hn
  rw [← hn] at hl ⊢
  clear hn
  have HR : Hid (∀ j x, ss[j]? = some x → w.rangeAt b (o + j * 16) (cellsId x)) := hr
  have ng := noGuard23
  clear hr
  unfold idv
  have HB0 : Hid (Below w.heap.size w (w.alloc (.cells (cellsId d).toArray 23))) := (Below.refl _ w).alloc (Nat.le_refl _) _
  have HD0 : Hid (Blk (w.alloc (.cells (cellsId d).toArray 23)) w.heap.size d) := Blk.new w d
  go_enter Yba.func17, Yba.ntmps17
  go_wp2
  go_loopw [9] (fun u wr => ∃ k : Nat, u = .int .i64 k ∧ k ≤ n ∧ Hid (Blk wr w.heap.size d ∧ Below w.heap.size w wr ∧ ∀ (j : Nat) x, ss[j]? = some x → j < k → x ≠ d)) (fun u wr => (n - intOf u).toNat)
  case atStart => exact ⟨0, rfl, Nat.zero_le _, HD0.out, HB0.out, fun j x _ h => absurd h (Nat.not_lt_zero _)⟩
  case round =>
    obtain ⟨k, rfl, hkn, HH⟩ := hrel
    by_cases hlt : k < n
    · have hlt' : (k : Int) < (n : Int) := by omega
      obtain ⟨x, hx⟩ : ∃ x, ss[k]? = some x := ⟨_, List.getElem?_eq_getElem (by have := HN.out; omega)⟩
      have hxo := hok.at hx
      have HX : Hid (ss[k]? = some x) := hx
      have LD : Hid (wr.rangeAt b (o + k * 16) (cellsId x)) := fun t u ht => by
        rw [HH.out.2.1.cell (p := ⟨b, o + k * 16 + t, none⟩) hb]
        exact HR.out k x hx t u ht
      clear hx
      by_cases hdx : x = d
      · have eq1 : ∀ w, (Op.equalIn 10000 23 (.agg (cellsId x).toArray) (.agg (cellsId d).toArray)).run Yba.prog w = .ok true w := fun w => by rw [run_eql_id x d hxo.1 hd.1 w, decide_eq_true hdx]
        have HDX : Hid (x = d) := hdx
        clear hdx
        go_wp2_with (first | (refine wpList_load_mid rfl 23 (.tmp 11) rfl _ _ rfl (cellsId x) _ LD.out Yba.underlying23 rfl (by rw [info23]; simp [cellsId, hxo.1]) ?_) | (refine wpList_store_id rfl (.tmp 6) (.tmp 12) rfl _ rfl x hxo.1 rfl zero16 rfl (Blk.new wr zero16) ?_; intro w4 hB4 hg4; have L4 : Below wr.heap.size wr w4 := ((Below.refl _ wr).alloc (Nat.le_refl _) _).grown hg4 (by simp) (by rintro k ⟨⟩; exact Nat.le_refl _); have HB4 : Hid (Blk w4 wr.heap.size x) := hB4; have HD4 : Hid (Blk w4 w.heap.size d) := HH.out.1.later L4; have HL4 : Hid (Below wr.heap.size wr w4) := L4; clear hB4 hg4 L4) | (refine wpList_load_id rfl (.tmp 6) rfl _ rfl x hxo.1 HB4.out ?_) | (refine wpList_load_id rfl (.tmp 3) rfl _ rfl d hd.1 HD4.out ?_))
        go_ret
        have e : decide (d ∈ ss) = true := decide_eq_true (by rw [← HDX.out]; exact List.mem_of_getElem? HX.out)
        exact ⟨by rw [e]; rfl, HH.out.2.1.trans (HL4.out.mono HH.out.2.1.size)⟩
      · have eq1 : ∀ w, (Op.equalIn 10000 23 (.agg (cellsId x).toArray) (.agg (cellsId d).toArray)).run Yba.prog w = .ok false w := fun w => by rw [run_eql_id x d hxo.1 hd.1 w, decide_eq_false hdx]
        have HDX : Hid (¬ x = d) := hdx
        clear hdx
        go_wp2_with (first | (refine wpList_load_mid rfl 23 (.tmp 11) rfl _ _ rfl (cellsId x) _ LD.out Yba.underlying23 rfl (by rw [info23]; simp [cellsId, hxo.1]) ?_) | (refine wpList_store_id rfl (.tmp 6) (.tmp 12) rfl _ rfl x hxo.1 rfl zero16 rfl (Blk.new wr zero16) ?_; intro w4 hB4 hg4; have L4 : Below wr.heap.size wr w4 := ((Below.refl _ wr).alloc (Nat.le_refl _) _).grown hg4 (by simp) (by rintro k ⟨⟩; exact Nat.le_refl _); have HB4 : Hid (Blk w4 wr.heap.size x) := hB4; have HD4 : Hid (Blk w4 w.heap.size d) := HH.out.1.later L4; have HL4 : Hid (Below wr.heap.size wr w4) := L4; clear hB4 hg4 L4) | (refine wpList_load_id rfl (.tmp 6) rfl _ rfl x hxo.1 HB4.out ?_) | (refine wpList_load_id rfl (.tmp 3) rfl _ rfl d hd.1 HD4.out ?_))
        go_roundw
        case rel =>
          refine ⟨k + 1, by simp, by omega, HD4.out, HH.out.2.1.trans (HL4.out.mono HH.out.2.1.size), fun j y hj hjk => ?_⟩
          by_cases e : j = k
          · subst e
            have := HX.out
            rw [this] at hj
            cases hj
            exact HDX.out
          · exact HH.out.2.2 j y hj (by omega)
        case measure => simp [intOf]; omega
    · have hlt' : ¬ (k : Int) < (n : Int) := by omega
      go_wp2
      go_ret
      have e : decide (d ∈ ss) = false := decide_eq_false fun h => by
        obtain ⟨j, hj⟩ := List.getElem?_of_mem h
        have hjl := (List.getElem?_eq_some_iff.1 hj).1
        exact absurd rfl (HH.out.2.2 j d hj (by have := HN.out; omega))
      exact ⟨by rw [e]; rfl, HH.out.2.1⟩
set_option maxHeartbeats 1000000 in
theorem has_none (p : Option Addr) (c : Nat) (d : List Int) (w : World) : Calls Yba.prog 17 #[.slice p 0 c, idv d] w fun e w' => e = .returned (.bool (decide (d ∈ ([] : List (List Int))))) ∧ Below w.heap.size w w' := by
  have HB0 : Hid (Below w.heap.size w (w.alloc (.cells (cellsId d).toArray 23))) := (Below.refl _ w).alloc (Nat.le_refl _) _
  have e0 : decide (d ∈ ([] : List (List Int))) = false := by simp
  rw [e0]
  clear e0
  unfold idv
  go_enter Yba.func17, Yba.ntmps17
  go_wp2
  go_loopw [9] (fun u wr => u = .int .i64 0 ∧ Hid (Below w.heap.size w wr)) (fun u wr => 0)
  case atStart => exact ⟨rfl, HB0.out⟩
  case round =>
    obtain ⟨rfl, HH⟩ := hrel
    go_wp2
    go_ret
    exact ⟨rfl, HH.out⟩
theorem has_any (v : Value) (ss : List (List Int)) (d : List Int) (hd : IdOk d) (hok : IsOk ss) (hl : ss.length ≤ 4096) (w : World) (h : IdsR w v ss) :
    Calls Yba.prog 17 #[v, idv d] w fun e w' => e = .returned (.bool (decide (d ∈ ss))) ∧ Below w.heap.size w w' := by
  obtain ⟨p, c, rfl, _, h3⟩ := h
  by_cases h0 : 0 < ss.length
  · obtain ⟨b, o, rfl, hb, hr⟩ := h3 h0
    exact has_some b o c ss d hd hok hl w hb hr
  · obtain rfl : ss = [] := List.eq_nil_of_length_eq_zero (by omega)
    exact has_none p c d w
end Go.Proofs.Ybulkadlc
