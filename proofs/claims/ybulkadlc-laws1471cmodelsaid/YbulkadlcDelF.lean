import Derived.Test.YbulkadlcDel
namespace Go.Proofs.Ybulkadlc
open Go.RowKit Go.QuietTail
set_option linter.unusedVariables false
set_option linter.unusedSimpArgs false

def delV (ib : Nat) : Value := .func (.func 40) #[] #[.pointer (some ⟨ib, 0, none⟩)]
set_option maxHeartbeats 1000000 in
theorem idxf_some (g c : Nat) (B ib : Nat) (ss : List (List Int)) (d : List Int) (hd : IdOk d) (hok : IsOk ss) (hl : ss.length ≤ 4096) (w : World) (hI : Ids w B (.slice (some ⟨g, 0, none⟩) ss.length c) ss) (hB : Blk w ib d) :
    Calls Yba.prog 44 #[.slice (some ⟨g, 0, none⟩) ss.length c, .func (.func 40) #[] #[.pointer (some ⟨ib, 0, none⟩)]] w fun e w' => ((e = .returned (.int .i64 (-1)) ∧ d ∉ ss) ∨ (∃ k : Nat, e = .returned (.int .i64 k) ∧ ss[k]? = some d ∧ ∀ (j : Nat) x, ss[j]? = some x → j < k → x ≠ d)) ∧ Below w.heap.size w w' := by
  obtain ⟨n, hn⟩ : ∃ n, n = ss.length := ⟨_, rfl⟩
  have HN : Hid (n = ss.length) := hn
  rw [← hn] at hI hl ⊢
  clear hn
  have HI : Hid (Ids w B (.slice (some ⟨g, 0, none⟩) n c) ss) := hI
  have HB : Hid (Blk w ib d) := hB
  clear hI hB
  go_enter Yba.func44, Yba.ntmps44
  go_wp2
  go_loopw [8] (fun u wr => ∃ k : Nat, u = .int .i64 k ∧ k ≤ n ∧ Hid (Below w.heap.size w wr ∧ ∀ (j : Nat) x, ss[j]? = some x → j < k → x ≠ d)) (fun u wr => (n - intOf u).toNat)
  case atStart => exact ⟨0, rfl, Nat.zero_le _, Below.refl _ _, fun j x _ h => absurd h (Nat.not_lt_zero _)⟩
  case round =>
    obtain ⟨k, rfl, hkn, HH⟩ := hrel
    by_cases hlt : k < n
    · have hlt' : (k : Int) < (n : Int) := by omega
      obtain ⟨x, hx⟩ : ∃ x, ss[k]? = some x := ⟨_, List.getElem?_eq_getElem (by have := HN.out; omega)⟩
      have hxo := hok.at hx
      have HX : Hid (ss[k]? = some x) := hx
      have LD : Hid (wr.rangeAt g (k * 16) (cellsId x)) := (HI.out.later HH.out.1).range hok hx
      have HD : Hid (Calls Yba.prog 40 #[.agg (cellsId x).toArray, .pointer (some ⟨ib, 0, none⟩)] wr fun e w' => e = .returned (.bool (decide (x = d))) ∧ Below wr.heap.size wr w') := del_any x d hxo hd ib wr (HB.out.later HH.out.1)
      clear hx
      by_cases hdx : x = d
      · have hdx' : decide (x = d) = true := decide_eq_true hdx
        have HDX : Hid (x = d) := hdx
        clear hdx
        go_wp2_with (first | (refine wpList_load_mid rfl 23 (.tmp 14) rfl _ _ rfl (cellsId x) _ LD.out Yba.underlying23 rfl (by rw [info23]; simp [cellsId, hxo.1]) ?_) | (go_at_call 40; refine HD.out.mono ?_; rintro e w1 ⟨rfl, hb1⟩; rw [hdx']))
        go_ret
        exact ⟨.inr ⟨k, rfl, by rw [← HDX.out]; exact HX.out, HH.out.2⟩, HH.out.1.trans (hb1.mono HH.out.1.size)⟩
      · have hdx' : decide (x = d) = false := decide_eq_false hdx
        have HDX : Hid (¬ x = d) := hdx
        clear hdx
        go_wp2_with (first | (refine wpList_load_mid rfl 23 (.tmp 14) rfl _ _ rfl (cellsId x) _ LD.out Yba.underlying23 rfl (by rw [info23]; simp [cellsId, hxo.1]) ?_) | (go_at_call 40; refine HD.out.mono ?_; rintro e w1 ⟨rfl, hb1⟩; rw [hdx']))
        go_roundw
        case rel =>
          refine ⟨k + 1, by simp, by omega, HH.out.1.trans (hb1.mono HH.out.1.size), fun j y hj hjk => ?_⟩
          by_cases e : j = k
          · subst e
            have := HX.out
            rw [this] at hj
            cases hj
            exact HDX.out
          · exact HH.out.2 j y hj (by omega)
        case measure => simp [intOf]; omega
    · have hlt' : ¬ (k : Int) < (n : Int) := by omega
      go_wp2
      go_ret
      refine ⟨.inl ⟨rfl, fun h => ?_⟩, HH.out.1⟩
      obtain ⟨j, hj⟩ := List.getElem?_of_mem h
      have hjl := (List.getElem?_eq_some_iff.1 hj).1
      exact absurd rfl (HH.out.2 j d hj (by have := HN.out; omega))
set_option maxHeartbeats 1000000 in
theorem idxf_nil (ib : Nat) (w : World) : Calls Yba.prog 44 #[.slice none 0 0, .func (.func 40) #[] #[.pointer (some ⟨ib, 0, none⟩)]] w fun e w' => e = .returned (.int .i64 (-1)) ∧ Below w.heap.size w w' := by
  go_enter Yba.func44, Yba.ntmps44
  go_wp2
  go_loopw [8] (fun u wr => u = .int .i64 0 ∧ Hid (Below w.heap.size w wr)) (fun u wr => 0)
  case atStart => exact ⟨rfl, Below.refl _ _⟩
  case round =>
    obtain ⟨rfl, HH⟩ := hrel
    go_wp2
    go_ret
    exact ⟨rfl, HH.out⟩

def delL (X : List (List Int)) (d : List Int) : List (List Int) := X.filter (fun x => decide (x ≠ d))
theorem delL_append (X Y : List (List Int)) (d : List Int) : delL (X ++ Y) d = delL X d ++ delL Y d := List.filter_append ..
theorem filter_no {X : List (List Int)} {d : List Int} (h : d ∉ X) : delL X d = X := by
  unfold delL
  rw [List.filter_eq_self]
  intro x hx
  simp
  rintro rfl
  exact h hx

set_option maxHeartbeats 2000000 in
theorem delf_any (B ib : Nat) (v : Value) (X : List (List Int)) (d : List Int) (hd : IdOk d) (hX : IsOk X) (hl : X.length ≤ 4096) (w : World) (hI : Ids w B v X) (hB : Blk w ib d) (hne : v.ownBlock ≠ some ib) :
    Calls Yba.prog 39 #[v, .func (.func 40) #[] #[.pointer (some ⟨ib, 0, none⟩)]] w fun e w' => ∃ v', e = .returned v' ∧ Ids w' B v' (delL X d) ∧ w.grownBy w' v.ownBlock := by
  rcases hI.form with ⟨hv, hx0⟩ | ⟨g, c, hv, hnc, hcm, hg, hBg⟩
  · subst hv
    subst hx0
    go_enter Yba.func39, Yba.ntmps39
    go_wp2_with (go_at_call 44; refine (idxf_nil ib w).mono ?_; rintro e w1 ⟨rfl, hb1⟩)
    go_ret
    exact ⟨_, rfl, World.ownsRow_nil _ _ _ _, grownBy_of_below hb1 _⟩
  · subst hv
    obtain ⟨n, hn⟩ : ∃ n, n = X.length := ⟨_, rfl⟩
    have HN : Hid (n = X.length) := hn
    have hl0 := hl
    have hI0 := hI
    have h44 := idxf_some g c B ib X d hd hX hl w hI hB
    rw [← hn] at hI hl hnc h44 ⊢
    clear hn
    have HI : Hid (Ids w B (.slice (some ⟨g, 0, none⟩) n c) X) := hI
    have HB : Hid (Blk w ib d) := hB
    have hgi : g ≠ ib := fun e => hne (by rw [e]; rfl)
    have H44 : Hid (Calls Yba.prog 44 #[.slice (some ⟨g, 0, none⟩) n c, .func (.func 40) #[] #[.pointer (some ⟨ib, 0, none⟩)]] w fun e w' => ((e = .returned (.int .i64 (-1)) ∧ d ∉ X) ∨ (∃ k : Nat, e = .returned (.int .i64 k) ∧ X[k]? = some d ∧ ∀ (j : Nat) x, X[j]? = some x → j < k → x ≠ d)) ∧ Below w.heap.size w w') := h44
    clear hI hB hne h44 hl0 hI0
    go_enter Yba.func39, Yba.ntmps39
    go_wp2_with fail
    have h44 := H44.out
    refine Calls.mono h44 ?_
    rintro e w1 ⟨hcase, hb1⟩
    rcases hcase with ⟨rfl, hno⟩ | ⟨k0, rfl, hk0, hbef⟩
    · have HNO : Hid (d ∉ X) := hno
      clear hno
      go_wp2
      go_ret
      refine ⟨_, rfl, ?_, grownBy_of_below hb1 _⟩
      rw [filter_no HNO.out]
      exact HI.out.later hb1
    · have HK0 : Hid (X[k0]? = some d ∧ (∀ (j : Nat) x, X[j]? = some x → j < k0 → x ≠ d) ∧ Below w.heap.size w w1) := ⟨hk0, hbef, hb1⟩
      have hk0n : k0 < n := by have := (List.getElem?_eq_some_iff.1 hk0).1; have := HN.out; omega
      have hne1 : ((k0 : Int) == -1) = false := beq_eq_false_iff_ne.mpr (by omega)
      clear hk0 hbef hb1
      go_wp2
      go_loopw [5, 6] (fun u t wr => ∃ (i j : Nat) (Y : List (List Int)), u = .int .i64 i ∧ t = .int .i64 j ∧ i < j ∧ j ≤ n ∧ Hid (Ids wr B (.slice (some ⟨g, 0, none⟩) n c) Y ∧ Y.length = n ∧ IsOk Y ∧ Y.take i = delL (X.take j) d ∧ Y.drop j = X.drop j ∧ Blk wr ib d ∧ w.grownBy wr (some g))) (fun u t wr => (n - intOf t).toNat)
      case atStart =>
        refine ⟨k0, k0 + 1, X, rfl, by simp, by omega, by omega, HI.out.later HK0.out.2.2, HN.out.symm, hX, ?_, rfl, HB.out.later HK0.out.2.2, grownBy_of_below HK0.out.2.2 _⟩
        rw [List.take_add_one, HK0.out.1, delL_append, filter_no (fun h => ?_)]
        · simp [delL]
        · obtain ⟨t, ht⟩ := List.getElem?_of_mem h
          rw [List.getElem?_take] at ht
          split at ht
          · exact HK0.out.2.1 t d ht (by assumption) rfl
          · cases ht
      case round =>
        obtain ⟨i, j, Y, rfl, rfl, hij, hjn, HH⟩ := hrel
        by_cases hlt : j < n
        · have hlt' : (j : Int) < (n : Int) := by omega
          obtain ⟨x, hx⟩ : ∃ x, Y[j]? = some x := ⟨_, List.getElem?_eq_getElem (by have := HH.out.2.1; omega)⟩
          have hxo := HH.out.2.2.1.at hx
          have LD : Hid (wr.rangeAt g (j * 16) (cellsId x)) := HH.out.1.range HH.out.2.2.1 hx
          have HXj : Hid (X[j]? = some x) := by
            have h1 := HH.out.2.2.2.2.1
            have h2 : (Y.drop j)[0]? = some x := by rw [List.getElem?_drop]; exact hx
            rw [h1, List.getElem?_drop] at h2
            exact h2
          have HDr : Hid (Y.drop (j + 1) = X.drop (j + 1)) := by
            have h1 := HH.out.2.2.2.2.1
            show _ = _
            have h2 := congrArg (List.drop 1) h1
            rw [List.drop_drop, List.drop_drop] at h2
            exact h2
          have HTk : Hid (delL (X.take (j + 1)) d = delL (X.take j) d ++ delL [x] d) := by
            show _ = _
            rw [List.take_add_one, HXj.out, delL_append]
            rfl
          clear hx
          by_cases hdx : x = d
          · have hdx' : decide (x = d) = true := decide_eq_true hdx
            have HDX : Hid (x = d) := hdx
            clear hdx
            go_wp2_with (first | (refine wpList_load_mid rfl 23 (.tmp 24) rfl _ _ rfl (cellsId x) _ LD.out Yba.underlying23 rfl (by rw [info23]; simp [cellsId, hxo.1]) ?_) | (refine wpList_store_id rfl (.tmp 7) (.tmp 25) rfl _ rfl x hxo.1 rfl zero16 rfl (Blk.new wr zero16) ?_; intro w4 hB4 hg4; have L4 : Below wr.heap.size wr w4 := ((Below.refl _ wr).alloc (Nat.le_refl _) _).grown hg4 (by simp) (by rintro k ⟨⟩; exact Nat.le_refl _); have HB4 : Hid (Blk w4 wr.heap.size x) := hB4; have HL4 : Hid (Below wr.heap.size wr w4) := L4; clear hB4 hg4 L4) | (refine wpList_load_id rfl (.tmp 7) rfl _ rfl x hxo.1 HB4.out ?_) | (go_at_call 40; refine (del_any x d hxo hd ib w4 (HH.out.2.2.2.2.2.1.later HL4.out)).mono ?_; rintro e w5 ⟨rfl, hb5⟩; rw [hdx']; have HL5 : Hid (Below wr.heap.size wr w5) := HL4.out.trans (hb5.mono HL4.out.size); clear hb5))
            go_roundw
            case rel =>
              refine ⟨i, j + 1, Y, rfl, by simp, by omega, by omega, HH.out.1.later HL5.out, HH.out.2.1, HH.out.2.2.1, ?_, HDr.out, HH.out.2.2.2.2.2.1.later HL5.out, grownBy_trans HH.out.2.2.2.2.2.2 (grownBy_of_below HL5.out _)⟩
              rw [HTk.out, HH.out.2.2.2.1, HDX.out]
              simp [delL]
            case measure => simp [intOf]; omega
          · have hdx' : decide (x = d) = false := decide_eq_false hdx
            have HDX : Hid (¬ x = d) := hdx
            clear hdx
            rcases HH.out.1.2 with ⟨hv, _⟩ | ⟨g', cap', cur, hv, hBg', hgr, hnc', hcm', hcs', htk'⟩
            · simp at hv
            · simp only [Value.slice.injEq, Option.some.injEq, Addr.mk.injEq, and_true, true_and] at hv
              have hge : g = g' := hv.1
              have hce : c = cap' := hv.2.2
              subst hge
              subst hce
              have HCUR : Hid (wr.heap[g]? = some (.cells cur.toList.toArray 23 (0, 0))) := by show _ = _; simpa using hgr
              have HCS : Hid (cur.size = c * 16 ∧ cur.toList.take (Y.length * 16) = flatI Y ∧ c ≤ maxLen) := ⟨hcs', htk', hcm'⟩
              clear hgr hcs' htk' hcm' hnc' hv hBg'
              have HFI : Hid (i * 16 + (cellsId x).length ≤ cur.toList.length) := by
                show _ ≤ _
                rw [cellsId_len hxo, Array.length_toList, HCS.out.1]
                omega
              go_wp2_with (first | (refine wpList_load_mid rfl 23 (.tmp 24) rfl _ _ rfl (cellsId x) _ LD.out Yba.underlying23 rfl (by rw [info23]; simp [cellsId, hxo.1]) ?_) | (refine wpList_store_id rfl (.tmp 7) (.tmp 25) rfl _ rfl x hxo.1 rfl zero16 rfl (Blk.new wr zero16) ?_; intro w4 hB4 hg4; have L4 : Below wr.heap.size wr w4 := ((Below.refl _ wr).alloc (Nat.le_refl _) _).grown hg4 (by simp) (by rintro k ⟨⟩; exact Nat.le_refl _); have HB4 : Hid (Blk w4 wr.heap.size x) := hB4; have HL4 : Hid (Below wr.heap.size wr w4) := L4; clear hB4 hg4 L4) | (refine wpList_load_id rfl (.tmp 7) rfl _ rfl x hxo.1 HB5.out ?_) | (refine wpList_load_id rfl (.tmp 7) rfl _ rfl x hxo.1 HB4.out ?_) | (go_at_call 40; refine (del_any x d hxo hd ib w4 (HH.out.2.2.2.2.2.1.later HL4.out)).mono ?_; rintro e w5 ⟨rfl, hb5⟩; rw [hdx']; have HL5 : Hid (Below wr.heap.size wr w5) := HL4.out.trans (hb5.mono HL4.out.size); have HB5 : Hid (Blk w5 wr.heap.size x) := HB4.out.later hb5; have HC5 : Hid (w5.heap[g]? = some (.cells cur.toList.toArray 23 (0, 0))) := (by rw [HL5.out.block g (Array.getElem?_eq_some_iff.1 HCUR.out).1]; exact HCUR.out); clear hb5) | (refine wpList_store_splice rfl 23 (.tmp 33) (.tmp 32) rfl g (i * 16) (cellsId x) cur.toList rfl rfl 23 HC5.out HFI.out (by rw [info23]; simp [cellsId, hxo.1]) (cellsId_one x) ?_; intro w6 hg6 hgr6; have HG6 : Hid _ := hg6; have HR6 : Hid (w5.grownBy w6 (some g)) := hgr6; clear hg6 hgr6))
              go_roundw
              case rel =>
                have hYn := HH.out.2.1
                refine ⟨i + 1, j + 1, Y.set i x, by simp, by simp, by omega, by omega, ?_, by simpa using hYn, ?_, ?_, ?_, ?_, ?_⟩
                · have := Ids.set (w' := w6) (B := B) HH.out.2.2.1 i x (by omega) hxo hBg (by rw [hYn]; exact hnc) HCS.out.2.2 HCS.out.1 HCS.out.2.1 HG6.out
                  rw [hYn] at this
                  exact this
                · intro y hy
                  rcases List.mem_or_eq_of_mem_set hy with h | rfl
                  · exact HH.out.2.2.1 y h
                  · exact hxo
                · rw [List.take_add_one, List.getElem?_set_self (by omega), List.take_set_of_le (Nat.le_refl _), HTk.out, HH.out.2.2.2.1]
                  have : delL [x] d = [x] := by simp [delL, HDX.out]
                  rw [this]
                  rfl
                · rw [List.drop_set_of_lt (by omega)]
                  exact HDr.out
                · exact (HH.out.2.2.2.2.2.1.later HL5.out).kept HR6.out (by simpa using Ne.symm hgi)
                · exact grownBy_trans (grownBy_trans HH.out.2.2.2.2.2.2 (grownBy_of_below HL5.out _)) HR6.out
              case measure => simp [intOf]; omega
        · have hlt' : ¬ (j : Int) < (n : Int) := by omega
          obtain rfl : n = j := by omega
          rcases HH.out.1.2 with ⟨hv, _⟩ | ⟨g', cap', cur, hv, hBg', hgr, hnc', hcm', hcs', htk'⟩
          · simp at hv
          · simp only [Value.slice.injEq, Option.some.injEq, Addr.mk.injEq, and_true, true_and] at hv
            have hge : g = g' := hv.1
            have hce : c = cap' := hv.2.2
            subst hge
            subst hce
            have HCUR : Hid (wr.heap[g]? = some (.cells cur.toList.toArray 23 (0, 0))) := by show _ = _; simpa using hgr
            have HCS : Hid (cur.size = c * 16 ∧ cur.toList.take (Y.length * 16) = flatI Y ∧ c ≤ maxLen) := ⟨hcs', htk', hcm'⟩
            clear hgr hcs' htk' hcm' hnc' hv hBg'
            have HFI : Hid (i * 16 + (n - i) * 16 ≤ cur.toList.length) := by
              show _ ≤ _
              rw [Array.length_toList, HCS.out.1]
              omega
            have hci : ¬ (c = i) := by omega
            go_wp2_with (first | (refine wpList_clear_row rfl (.tmp 38) rfl g (i * 16) (n - i) (c - i) rfl (by omega) cur.toList 23 HCUR.out HFI.out ?_; intro w6 hg6 hgr6; have HG6 : Hid _ := hg6; have HR6 : Hid (wr.grownBy w6 (some g)) := hgr6; clear hg6 hgr6))
            go_ret
            have hYn := HH.out.2.1
            have hX2 : Y.take i = delL X d := by
              have h1 := HH.out.2.2.2.1
              rw [List.take_of_length_le (l := X) (by have := HN.out; omega)] at h1
              exact h1
            refine ⟨_, rfl, ?_, grownBy_trans HH.out.2.2.2.2.2.2 HR6.out⟩
            rw [← hX2]
            show Ids w6 B (.slice (some ⟨g, 0, none⟩) i c) (Y.take i)
            have hil : (Y.take i).length = i := by rw [List.length_take]; omega
            refine ⟨?_, .inr ⟨g, c, _, by rw [hil], hBg, HG6.out, by omega, HCS.out.2.2, ?_, ?_⟩⟩
            · rw [flatI_len (fun y hy => HH.out.2.2.1 y (List.mem_of_mem_take hy))]
            · rw [List.size_toArray, length_splice _ _ _ (by rw [zerosI_len]; exact HFI.out), Array.length_toList, HCS.out.1]
            · rw [hil, List.toList_toArray]
              unfold splice
              rw [List.take_append_of_le_length (by rw [List.length_take]; have := HFI.out; omega), List.take_take, Nat.min_self, ← flatI_take HH.out.2.2.1 i, ← HCS.out.2.1, List.take_take, Nat.min_eq_left (by omega)]
end Go.Proofs.Ybulkadlc
