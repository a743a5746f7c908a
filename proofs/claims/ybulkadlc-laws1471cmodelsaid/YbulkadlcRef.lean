import Derived.Test.YbulkadlcCnt
import Derived.Test.YbulkadlcPick
namespace Go.Proofs.Ybulkadlc
open Go.RowKit Go.QuietTail
set_option linter.unusedVariables false
set_option linter.unusedSimpArgs false

/-- A block of 129 bools. -/
def VB (w : World) (bv : Nat) (V : Nat → Bool) : Prop := ∃ cs : List Value, w.heap[bv]? = some (.cells cs.toArray 34 (0, 0)) ∧ cs.length = 129 ∧ ∀ i, i < 129 → cs[i]? = some (.bool (V i))
theorem VB.lt {w : World} {bv : Nat} {V : Nat → Bool} (h : VB w bv V) : bv < w.heap.size := let ⟨_, h1, _⟩ := h; (Array.getElem?_eq_some_iff.1 h1).1
theorem VB.cell {w : World} {bv : Nat} {V : Nat → Bool} (h : VB w bv V) (i : Nat) (hi : i < 129) : w.cell? ⟨bv, i, none⟩ = some (.bool (V i)) := by
  obtain ⟨cs, h1, h2, h3⟩ := h
  rw [cell_of_row w bv i _ 34 (0, 0) h1]
  simpa using h3 i hi
theorem VB.frozen {w : World} {bv : Nat} {V : Nat → Bool} (h : VB w bv V) (i : Nat) : w.frozen? ⟨bv, i, none⟩ = false := by
  obtain ⟨cs, h1, h2, h3⟩ := h
  exact frozen_of_row w bv i _ 34 h1
theorem VB.later {w w' : World} {bv : Nat} {V : Nat → Bool} (h : VB w bv V) (hb : Below w.heap.size w w') : VB w' bv V := by
  obtain ⟨cs, h1, h2, h3⟩ := h
  exact ⟨cs, by rw [hb.block bv (Array.getElem?_eq_some_iff.1 h1).1]; exact h1, h2, h3⟩
theorem VB.same {w w' : World} {bv : Nat} {V : Nat → Bool} (h : VB w bv V) (hb : w'.heap[bv]? = w.heap[bv]?) : VB w' bv V := by
  obtain ⟨cs, h1, h2, h3⟩ := h
  exact ⟨cs, by rw [hb]; exact h1, h2, h3⟩
theorem VB.set {w : World} {bv : Nat} {V : Nat → Bool} (h : VB w bv V) (e : Nat) (b : Bool) : VB (w.setCell ⟨bv, e, none⟩ (.bool b)) bv (fun i => if i = e then b else V i) := by
  obtain ⟨cs, h1, h2, h3⟩ := h
  refine ⟨cs.set e (.bool b), ?_, by simpa using h2, fun i hi => ?_⟩
  · rw [heap_setCell_same w bv e _ 34 _ h1]; simp
  · by_cases hie : e = i
    · subst hie
      rw [List.getElem?_set_self (by omega)]
      show _ = some (Value.bool (if _ then _ else _))
      rw [if_pos rfl]
    · rw [List.getElem?_set_ne hie, h3 i hi]
      show _ = some (Value.bool (if _ then _ else _))
      rw [if_neg (Ne.symm hie)]
theorem VB.congr {w : World} {bv : Nat} {V V' : Nat → Bool} (h : VB w bv V) (he : ∀ i, i < 129 → V i = V' i) : VB w bv V' := by
  obtain ⟨cs, h1, h2, h3⟩ := h
  exact ⟨cs, h1, h2, fun i hi => by rw [h3 i hi, he i hi]⟩
def z129 : Array Value := (List.replicate 129 (Value.bool false)).toArray
theorem info34z : (Yba.prog.info? 34).map (fun i => (i.zero, i.size, i.bytes)) = some (some (.agg z129), 129, 129) := by kernel_rfl
theorem zero34 (w : World) : Sem.run Yba.prog (zeroValue 34) w = .ok (.agg z129) w := by
  obtain ⟨i0, hi0, hz0, hz1, hz2⟩ := info_parts info34z
  simp [zeroValue, typeInfo, hi0, hz0]
theorem VB.new (w : World) : VB (w.alloc (.cells z129 34)) w.heap.size (fun _ => false) :=
  ⟨_, heap_alloc_new w _, List.length_replicate, fun i hi => by rw [List.getElem?_replicate, if_pos hi]⟩

/-- Which entries are valid. -/
def valL (self : List Int) (l : List Fg) (i : Nat) : Bool := l.any (fun x => x.1 == (i : Int) && fing self x.2 == (i : Int))
def FB (l : List Fg) : Prop := ∀ x ∈ l, 1 ≤ x.1 ∧ x.1 ≤ 128
theorem valL_step (self : List Int) (l : List Fg) (hasc : Asc l) (hb : FB l) (j : Nat) (x : Fg) (hx : l[j]? = some x) (i : Nat) :
    (if i = x.1.toNat then fing self x.2 == x.1 else valL self (l.take j) i) = valL self (l.take (j + 1)) i := by
  have hjl := (List.getElem?_eq_some_iff.1 hx).1
  have hxb := hb x (List.mem_of_getElem? hx)
  have e : l.take (j + 1) = l.take j ++ [x] := by rw [List.take_add_one, hx]; rfl
  unfold valL
  rw [e, List.any_append]
  by_cases hi : i = x.1.toNat
  · rw [if_pos hi]
    have hxi : x.1 = (i : Int) := by omega
    have : (l.take j).any (fun x => x.1 == (i : Int) && fing self x.2 == (i : Int)) = false := by
      rw [List.any_eq_false]
      intro y hy
      obtain ⟨t, ht⟩ := List.getElem?_of_mem hy
      rw [List.getElem?_take] at ht
      split at ht
      · have := hasc t j y x ht hx (by assumption)
        simp
        omega
      · cases ht
    rw [this]
    simp [hxi]
  · rw [if_neg hi]
    have : (x.1 == (i : Int)) = false := by simp; omega
    simp [this]

theorem wpList_store_fg {ops : Array Oper} {rest : List Oper} {o : Oper} {a : Act} {w : World} {Q : Exit → Act → World → Prop} (hgd : o.guard = none) (x y : Operand) (ho : o.op = .store 65 x y)
    (g : Nat) (hx : a.eval x = .pointer (some ⟨g, 0, none⟩)) (f : Fg) (hf : FgOk f) (hy : a.eval y = .agg (cellsF f).toArray) (f0 : Fg) (hf0 : FgOk f0) (hg : One w g f0)
    (h : ∀ w', One w' g f → w.grownBy w' (some g) → wpList Yba.prog ops Q rest (a.put o.dst undef) w') : wpList Yba.prog ops Q (o :: rest) a w :=
  wpList_store_row hgd 65 x y ho g (cellsF f).toArray hx hy 65 (cellsF f0).toArray hg (by rw [info65]; simp [cellsF_len hf]) (by simp [cellsF_len hf, cellsF_len hf0]) (all_oneCell_toArray (cellsF_one f))
    (h _ (setRow_heap w g _ _ 65 _ hg) (grownBy_setRow _ _ _))
theorem zeroFg_ok : FgOk (0, zero16) := ⟨⟨by decide, by decide⟩, zero16_ok⟩
theorem One.new (w : World) (x : Fg) : One (w.alloc (.cells (cellsF x).toArray 65)) w.heap.size x := heap_alloc_new w _
theorem One.later {w w' : World} {vb : Nat} {x : Fg} (h : One w vb x) (hb : Below w.heap.size w w') : One w' vb x := by
  unfold One at *
  rw [hb.block vb (Array.getElem?_eq_some_iff.1 h).1]
  exact h
theorem One.entry {w : World} {vb : Nat} {x : Fg} (h : One w vb x) : w.cell? ⟨vb, 0, none⟩ = some (.int .u8 x.1) := by
  rw [cell_of_row w vb 0 _ 65 (0, 0) h]; rfl
theorem One.peer {w : World} {vb : Nat} {x : Fg} (h : One w vb x) : w.rangeAt vb 1 (cellsId x.2) := fun j v hv => by
  rw [cell_of_row w vb (1 + j) _ 65 (0, 0) h]
  simp only [cellsF]
  rw [Nat.add_comm]
  simpa using hv

set_option maxHeartbeats 2000000 in
set_option maxRecDepth 100000 in
theorem ftr_any (T B : Nat) (self : List Int) (vp vs vf : Value) (l : List Fg) (ss : List (List Int)) (C : Nat → Bool) (kc cc b o cn cap : Nat) (p : Option Addr) (w : World) (hs : IdOk self) (hok : FOk l) (hasc : Asc l) (hfb : FB l) (hl : l.length ≤ 2048)
    (hoks : IsOk ss) (hls : ss.length ≤ 1024) (hTB : TBlk w T self vp vs vf) (hT : Tab w B vf l) (hI : Ids w B vs ss) (hcn : cn ≤ 1024)
    (hK : w.heap[kc]? = some (.cells #[.int .i64 0] 3 (0, 0))) (hC : Coins w cc p b o cn cap C) (h1 : cc ≠ kc) (h2 : b ≠ kc) (l1 : cc < w.heap.size) (l2 : 0 < cn → b < w.heap.size) :
    Calls Yba.prog 12 #[.pointer (some ⟨T, 0, none⟩), .func (.func 11) #[] #[.pointer (some ⟨kc, 0, none⟩), .pointer (some ⟨cc, 0, none⟩)]] w fun e w' =>
      e = .returned (.int .i64 ((pick (valL self l) C (fcount self ss).toNat 1 0 0).1 : Int)) ∧ w'.heap[kc]? = some (.cells #[.int .i64 ((pick (valL self l) C (fcount self ss).toNat 1 0 0).2 : Int)] 3 (0, 0)) ∧ w.grownBy w' (some kc) := by
  have cF := hTB.cellF hs.1
  obtain ⟨p2, n, c2, hvf⟩ := hT.form
  subst hvf
  have HT : Hid (Tab w B (.slice p2 n c2) l) := hT
  have HTB : Hid (TBlk w T self vp vs (.slice p2 n c2)) := hTB
  have HI : Hid (Ids w B vs ss) := hI
  have HC : Hid (Coins w cc p b o cn cap C) := hC
  have HK : Hid (w.heap[kc]? = some (.cells #[.int .i64 0] 3 (0, 0))) := hK
  have HSr : Hid (w.rangeAt T 0 (cellsId self)) := hTB.self
  clear hT hTB hI hC hK
  go_enter Yba.func12, Yba.ntmps12
  go_wp2_with (first | (refine wpList_load_mid rfl 23 (.tmp 12) rfl _ _ rfl (cellsId self) _ HSr.out Yba.underlying23 rfl (by rw [info23]; simp [cellsId, hs.1]) ?_) | (refine wpList_store_id rfl (.tmp 5) (.tmp 13) rfl _ rfl self hs.1 rfl zero16 rfl (Blk.new w zero16) ?_; intro w1 hB1 hg1; have L1 : Hid (Below w.heap.size w w1) := (((Below.refl _ w).alloc (Nat.le_refl _) _).grown hg1 (by simp) (by rintro k ⟨⟩; exact Nat.le_refl _)); have cF1 := (HTB.out.later L1.out).cellF hs.1; have hT1 : T < w1.heap.size := Nat.lt_of_lt_of_le HTB.out.lt L1.out.size; have HB1 : Hid (Blk w1 w.heap.size self) := hB1; have z34 := zero34 w1; clear hB1 hg1))
  clear cF1 z34 cF
  go_loopw [19] (fun u wr => ∃ j : Nat, u = .int .i64 j ∧ j ≤ n ∧ Hid (VB wr w1.heap.size (valL self (l.take j)) ∧ Blk wr w.heap.size self ∧ Below w.heap.size w wr)) (fun u wr => (n - intOf u).toNat)
  case atStart => 
    refine ⟨0, rfl, Nat.zero_le _, ?_, HB1.out.alloc _, L1.out.alloc L1.out.size _⟩
    exact VB.new w1
  case round =>
    obtain ⟨j, rfl, hjn, HH⟩ := hrel
    have hN : n = l.length := by
      rcases HT.out.2 with ⟨hv, hn⟩ | ⟨g, cap, cur, hv, _⟩
      · cases hv; exact hn.symm
      · cases hv; rfl
    have hn2 : n ≤ 2048 := by omega
    by_cases hlt : j < n
    · have hlt' : (j : Int) < (n : Int) := by omega
      obtain ⟨x, hx⟩ : ∃ x, l[j]? = some x := ⟨_, List.getElem?_eq_getElem (show j < l.length by omega)⟩
      have hxo := hok.at hx
      have hxb := hfb x (List.mem_of_getElem? hx)
      obtain ⟨g, hg⟩ : ∃ g, p2 = some ⟨g, 0, none⟩ := by
        rcases HT.out.2 with ⟨hv, hn⟩ | ⟨g, cap, cur, hv, _⟩
        · omega
        · cases hv; exact ⟨g, rfl⟩
      subst hg
      have LD : Hid (wr.rangeAt g (j * 17) (cellsF x)) := (HT.out.later HH.out.2.2).range hok hx
      have HX : Hid (l[j]? = some x) := hx
      have HNN : Hid (n = l.length) := hN
      clear hN hx
      go_wp2_with (first | (refine loadF rfl (.tmp 21) rfl _ _ rfl x hxo LD.out ?_) | (refine wpList_store_fg rfl (.tmp 8) (.tmp 22) rfl _ rfl x hxo rfl (0, zero16) zeroFg_ok (One.new wr (0, zero16)) ?_; intro w2 hO2 hg2))
      have L2 : Below wr.heap.size wr w2 := ((Below.refl _ wr).alloc (Nat.le_refl _) _).grown hg2 (by simp) (by rintro k ⟨⟩; exact Nat.le_refl _)
      have HV2 : Hid (VB w2 w1.heap.size (valL self (l.take j))) := HH.out.1.later L2
      have HB2 : Hid (Blk w2 w.heap.size self) := HH.out.2.1.later L2
      have HL2 : Hid (Below w.heap.size w w2) := HH.out.2.2.trans (L2.mono HH.out.2.2.size)
      have HO2 : Hid (One w2 wr.heap.size x) := hO2
      clear L2 hO2 hg2
      have hNE : Nonempty (Later w2) := ⟨⟨w2, Below.refl _ _⟩⟩
      have cE : ∀ q : Later w2, q.w.cell? ⟨wr.heap.size, 0, none⟩ = some (.int .u8 x.1) := fun q => (HO2.out.later q.h).entry
      have HS : Hid (∀ w', (∃ q : Later w2, w' = q.w) → w'.rangeAt w.heap.size 0 (cellsId self)) := by
        rintro w' ⟨q, rfl⟩
        exact (HB2.out.later q.h).range
      have HP : Hid (∀ w', (∃ q : Later w2, w' = q.w) → w'.rangeAt wr.heap.size 1 (cellsId x.2)) := by
        rintro w' ⟨q, rfl⟩
        exact (HO2.out.later q.h).peer
      have hx1 := hxb.1
      have hx2 := hxb.2
      have hxi : x.2.length = 16 := hxo.2.1
      simp only [Act.put]
      refine wp_region_later_tail 11 (by kernel_rfl) (by kernel_rfl) ?_
      simp only [List.take_succ_cons, List.take_zero, List.drop_succ_cons, List.drop_zero]
      iterate 2 (go_big_quiet_step (fail))
      refine qload_id rfl (.tmp 5) rfl _ _ rfl self hs.1 HS.out ?_
      simp only [Act.put, List.setIfInBounds_toArray, List.set_cons_succ, List.set_cons_zero]
      go_big_quiet_step (fail)
      refine qload_id rfl (.tmp 26) rfl _ _ rfl x.2 hxi HP.out ?_
      simp only [Act.put, List.setIfInBounds_toArray, List.set_cons_succ, List.set_cons_zero]
      go_big_quiet_want
      go_big_quiet_op
      refine ⟨_, fun q => calls_later (finger_at w2 self x.2 hs hxo.2 _ q.h), ?_⟩
      go_big_quiet_on
      iterate 5 (go_big_quiet_step (fail))
      refine wpQuiet_nil ?_
      intro w3 hw3
      obtain ⟨⟨_, hb3⟩, rfl⟩ := hw3
      have HV3 : Hid (VB w3 w1.heap.size (valL self (l.take j))) := HV2.out.later hb3
      have HB3 : Hid (Blk w3 w.heap.size self) := HB2.out.later hb3
      have HL3 : Hid (Below w.heap.size w w3) := HL2.out.trans (hb3.mono HL2.out.size)
      have cV := HV3.out.cell x.1.toNat (by omega)
      have fV := HV3.out.frozen x.1.toNat
      clear cE hb3
      go_wp2
      go_roundw
      case rel =>
        have hne : w.heap.size ≠ w1.heap.size := by have := HB1.out.lt; omega
        refine ⟨j + 1, by simp, by omega, ?_, ?_, ?_⟩
        · refine (HV3.out.set x.1.toNat (fing self x.2 == x.1)).congr (fun i _ => ?_)
          exact valL_step self l hasc hfb j x HX.out i
        · exact HB3.out.kept (grownBy_setCell w3 w1.heap.size _ _) (by simpa using hne)
        · exact HL3.out.setCell L1.out.size _
      case measure => simp [intOf]; omega
    · have hlt' : ¬ (j : Int) < (n : Int) := by omega
      obtain rfl : j = n := by omega
      have HV : Hid (VB wr w1.heap.size (valL self l)) := by
        have := HH.out.1
        rw [hN, List.take_length] at this
        exact this
      have HLL : Hid (Below w.heap.size w wr) := HH.out.2.2
      have hfc := fcount_bd self ss
      obtain ⟨cnt, hcnt⟩ : ∃ cnt : Nat, (cnt : Int) = fcount self ss := ⟨(fcount self ss).toNat, by omega⟩
      have HCN : Hid ((fcount self ss).toNat = cnt) := by show _ = _; omega
      have hc128 : cnt ≤ 128 := by omega
      have HFC : Hid (∀ W : World, Below wr.heap.size wr W → VB W w1.heap.size (valL self l) ∧ W.heap[kc]? = some (.cells #[.int .i64 0] 3 (0, 0)) ∧ Coins W cc p b o cn cap C ∧ W.heap.size ≥ w.heap.size ∧ w1.heap.size ≠ kc ∧ Below w.heap.size w W) := fun W hW => by
        have hL := HLL.out.trans (hW.mono HLL.out.size)
        have hkc := (Array.getElem?_eq_some_iff.1 HK.out).1
        refine ⟨HV.out.later hW, by rw [hL.block kc hkc]; exact HK.out, HC.out.kept (grownBy_of_below hL none) l1 l2 (by simp) (by simp), hL.size, ?_, hL⟩
        have := L1.out.size
        omega
      have HF0 : Hid (Calls Yba.prog 10 #[.pointer (some ⟨T, 0, none⟩)] wr fun e w' => e = .returned (.int .i64 cnt) ∧ Below wr.heap.size wr w') := by
        have := fcount_any T B self vp vs _ ss hs hoks hls wr (HTB.out.later HLL.out) (HI.out.later HLL.out)
        rw [← hcnt] at this
        exact this
      clear hfc hcnt hN hlt hlt' HH
      go_wp2_with (first | (go_at_call 10; refine HF0.out.mono ?_; rintro e w4 ⟨rfl, hb4⟩; have HW : Hid _ := HFC.out w4 hb4; clear hb4) | (go_at_call 28; refine (pick_any (valL self l) C cnt w1.heap.size kc cc b o cn cap p w4 hc128 hcn (fun i hi => HW.out.1.cell i hi) HW.out.2.1 HW.out.2.2.1 h1 h2 HW.out.2.2.2.2.1 (Nat.lt_of_lt_of_le l1 HW.out.2.2.2.1) (fun h => Nat.lt_of_lt_of_le (l2 h) HW.out.2.2.2.1) HW.out.1.lt).mono ?_; rintro e w5 ⟨rfl, hk5, hg5⟩))
      go_ret
      rw [HCN.out]
      exact ⟨rfl, hk5, grownBy_trans (grownBy_of_below HW.out.2.2.2.2.2 _) hg5⟩
end Go.Proofs.Ybulkadlc
