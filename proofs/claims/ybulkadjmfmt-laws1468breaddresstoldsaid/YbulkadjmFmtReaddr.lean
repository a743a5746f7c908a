import Derived.Test.YbulkadjmFmtFind
import Derived.Laws.CopyOwn
namespace Go.Proofs.YbulkadjmFmt
open Go.RowKit Go.Extern.Stop Go.Stop Go.Extern Go.QuietTail

theorem Own.cur {w : World} {B g cap : Nat} {l : List Int} (h : Own w B g cap l) : ∃ cur : Array Value, w.heap[g]? = some (.cells cur 5 (0, 0)) ∧ cur.size = cap ∧ cur.toList.take l.length = l.map (Value.int .u8) := by
  rcases h.2 with ⟨h', _⟩ | ⟨g', cap', cur, h', hb, hg, hnc, hcm, hcs, htake⟩
  · simp at h'
  · simp only [Value.slice.injEq, Option.some.injEq, Addr.mk.injEq, and_true, true_and] at h'
    obtain ⟨rfl, rfl⟩ := h'
    exact ⟨cur, hg, by omega, by simpa using htake⟩

theorem take_splice {α : Type} (C Q : List α) (n off : Nat) (h : off + Q.length ≤ n) (hC : n ≤ C.length) :
    (C.take off ++ (Q ++ C.drop (off + Q.length))).take n = (C.take n).take off ++ (Q ++ (C.take n).drop (off + Q.length)) := by
  have e1 : (C.take off).take n = C.take off := List.take_of_length_le (by simp; omega)
  have e2 : Q.take (n - off) = Q := List.take_of_length_le (by omega)
  have e3 : (C.take n).take off = C.take off := by rw [List.take_take, Nat.min_eq_left (by omega)]
  rw [e3, List.take_append, e1, List.length_take, Nat.min_eq_left (by omega), List.take_append, e2, List.drop_take, Nat.sub_sub]

/-- q laid over l from place off on. -/
def lay (l : List Int) (off : Nat) (q : List Int) : List Int := l.take off ++ (q ++ l.drop (off + q.length))
theorem lay_length (l : List Int) (off : Nat) (q : List Int) (h : off + q.length ≤ l.length) : (lay l off q).length = l.length := by unfold lay; simp; omega

theorem Own.laid {w : World} {B g cap : Nat} {l : List Int} (h : Own w B g cap l) {cur : Array Value} (hg : w.heap[g]? = some (.cells cur 5 (0, 0))) (off : Nat) (q : List Int) (hfit : off + q.length ≤ l.length) :
    Own (w.setRow g (cur.toList.take off ++ (q.map (Value.int .u8) ++ cur.toList.drop (off + (q.map (Value.int .u8)).length))).toArray) B g cap (lay l off q) ∧ w.grownBy (w.setRow g (cur.toList.take off ++ (q.map (Value.int .u8) ++ cur.toList.drop (off + (q.map (Value.int .u8)).length))).toArray) (some g) := by
  obtain ⟨cur', hg', hcs, htake⟩ := h.cur
  rw [hg] at hg'
  obtain rfl : cur = cur' := by simpa using hg'
  have hcap := h.cap
  have hlay := lay_length l off q hfit
  refine ⟨⟨by simp, .inr ⟨g, cap, _, ?_, h.lt.1, setRow_heap w g cur _ 5 _ hg, by omega, hcap.2, by simp; omega, ?_⟩⟩, ⟨rfl, rfl, rfl, by simp, fun k _ hk => setRow_other w g k _ (fun e => hk (by simp [e]))⟩⟩
  · rfl
  · rw [Nat.mul_one, hlay]
    simp only [List.length_map]
    unfold lay
    rw [List.map_append, List.map_append, List.map_take, List.map_drop, ← htake]
    have := take_splice cur.toList (q.map (Value.int .u8)) l.length off (by simpa using hfit) (by simp; omega)
    simpa using this

theorem put16_length (l : List Int) (o : Nat) (x : Int) : (put16 l o x).length = l.length := by unfold put16; simp

/-- copy(dst[off:], q) onto the call's own bytes, whatever the lengths. -/
theorem wpList_copy_lay {w : World} {ops : Array Oper} {rest : List Oper} {o : Oper} {a : Act} {Q : Exit → Act → World → Prop} (hgd : o.guard = none) (d s : Operand)
    (ho : o.op = .call { callee := .builtin .copy, args := #[d, s], argTypes := #[23, 23] }) (dp : Option Addr) (dLen dCap sLen sCap : Nat) (sp : Option Addr) (hd : a.eval d = .slice dp dLen dCap) (hs : a.eval s = .slice sp sLen sCap)
    (B g cap off : Nat) (l q : List Int) (h : Own w B g cap l) (hdp : 0 < dLen → dp = some ⟨g, off, none⟩) (hfit : off + dLen ≤ l.length) (hsl : q.length = sLen)
    (hsp : 0 < sLen → ∃ ad, sp = some ad ∧ ∀ j v, (q.map (Value.int .u8))[j]? = some v → w.cell? (ad.add j) = some v)
    (hK : ∀ w' N, Own w' B g cap (lay l off (q.take dLen)) → w.grownBy w' (some g) → wpList Ybaf.prog ops Q rest (a.put o.dst (goInt N)) w') : wpList Ybaf.prog ops Q (o :: rest) a w := by
  by_cases hmin : Nat.min sLen dLen = 0
  · refine wpList_copy_nothing hgd d s 23 23 ho 5 Ybaf.underlying23 (by kernel_rfl) dp sp dLen dCap sLen sCap hd hs hmin (hK w _ ?_ (World.grownBy.refl _ _))
    have e : q.take dLen = [] := by
      apply List.eq_nil_of_length_eq_zero
      rw [List.length_take, hsl, Nat.min_comm]
      exact hmin
    rw [e]
    unfold lay
    simpa using h
  · have hpos : 0 < sLen ∧ 0 < dLen := by
      constructor
      · rcases Nat.eq_zero_or_pos sLen with h0 | h0
        · rw [h0] at hmin; simp at hmin
        · exact h0
      · rcases Nat.eq_zero_or_pos dLen with h0 | h0
        · rw [h0] at hmin; simp at hmin
        · exact h0
    obtain rfl := hdp hpos.2
    obtain ⟨ad, rfl, hsrc⟩ := hsp hpos.1
    obtain ⟨cur, hg, hcs, hct⟩ := h.cur
    have hlen : ((q.take dLen).map (Value.int .u8)).length = Nat.min sLen dLen := by
      rw [List.length_map, List.length_take, hsl, Nat.min_comm]
    have hml : Nat.min sLen dLen ≤ dLen := Nat.min_le_right _ _
    have hcap := h.cap.1
    obtain ⟨L1, L2⟩ := h.laid hg off (q.take dLen) (by have := hlen; simp only [List.length_map] at this; omega)
    refine wpList_copy_own hgd d s 23 23 ho 5 Ybaf.underlying23 (by kernel_rfl) g off dLen dCap ad sLen sCap hd hs cur 5 hg ((q.take dLen).map (Value.int .u8)) hlen ?_ (by omega) (ints_oneCell _ _) (hK _ _ L1 L2)
    intro j v hj
    refine hsrc j v ?_
    rw [List.map_take, List.getElem?_take] at hj
    split at hj
    · exact hj
    · cases hj

/-- What Readdress makes of the answer's bytes. -/
def fin16 (l : List Int) (res : Option (Option Nat)) : List Int :=
  match res with
  | some (some d) => put16 l (d - 8) 1232
  | _ => l

theorem scan_bound (kk L : Nat) (rs : List Rec) : ∀ (i off : Nat) (st : Option Nat), (∀ d, st = some d → 11 ≤ d ∧ d ≤ L) → ∀ d, scan kk L rs i off st = some (some d) → 11 ≤ d ∧ d ≤ L := by
  induction rs with
  | nil => intro i off st hst d h; simp [scan] at h; exact hst d h
  | cons r rs ih =>
    intro i off st hst d h
    rw [scan_cons] at h
    split at h
    · cases h
    · rename_i hL
      split at h
      · cases st with
        | some _ => cases h
        | none =>
          refine ih _ _ _ ?_ d h
          intro d' hd'
          cases hd'
          have := r.d_cases
          unfold Rec.len at hL
          omega
      · exact ih _ _ _ hst d h

set_option maxHeartbeats 1000000 in
theorem readdress_any (F : Interp) (B B' g cap gs gq qcap kk n : Nat) (l q : List Int) (id : Int) (rs : List Rec) (w : World) (hF : F.answers w.tape) (h : Own w B g cap l) (hq : Own w B' gq qcap q) (hgq : gq ≠ g) (hgs : gs ≠ g)
    (k0 : w.cell? ⟨gs, 0, none⟩ = some (.int .u16 id)) (k3 : w.cell? ⟨gs, 3, none⟩ = some (.slice (some ⟨gq, 0, none⟩) q.length qcap)) (hid0 : 0 ≤ id) (hid1 : id ≤ 65535) (hl12 : 12 ≤ l.length) (hq300 : q.length ≤ 300) (hl : l.length ≤ 1000000)
    (l2 : List Int) (hl2 : l2 = lay (put16 l 0 id) 12 (q.take (l.length - 12)))
    (hok : ∀ r ∈ rs, r.Ok) (hn : rs.length = n) (hkk : kk ≤ n) (hn300 : n ≤ 300) (hat : At l2 (12 + q.length) (encAll rs)) (a6 : l2.getD 6 0 = (kk : Int) / 256) (a7 : l2.getD 7 0 = (kk : Int) % 256) (a8 : l2.getD 8 0 = 0) (a9 : l2.getD 9 0 = 0)
    (a10 : l2.getD 10 0 = ((n - kk : Nat) : Int) / 256) (a11 : l2.getD 11 0 = ((n - kk : Nat) : Int) % 256) :
    Calls Ybaf.prog 7 #[.pointer (some ⟨gs, 0, none⟩), .slice (some ⟨g, 0, none⟩) l.length cap] w fun e w' => e = .returned (.tuple #[]) ∧ Own w' B g cap (fin16 l2 (scan kk l.length rs 0 (12 + q.length) none)) ∧ w.grownBy w' (some g) := by
  have hcap := h.cap
  unfold maxLen at hcap
  have hgl := h.lt.2
  have H : Hid (Own w B g cap l) := h
  have HQ : Hid (Own w B' gq qcap q) := hq
  obtain ⟨len, hlen⟩ : ∃ len, len = l.length := ⟨_, rfl⟩
  have HL : Hid (len = l.length) := hlen
  rw [← hlen] at hcap hl12 hl ⊢
  have hl2L : l2.length = len := by
    rw [hl2, lay_length _ _ _ (by rw [put16_length, List.length_take]; omega), put16_length]
    exact hlen.symm
  have HF := findOPT_any F B g cap (12 + q.length) kk n l2 rs
  have HX : Hid (∀ w, F.answers w.tape → Own w B g cap l2 → Calls Ybaf.prog 8 #[.slice (some ⟨g, 0, none⟩) len cap, .int .i64 ((12 + q.length : Nat) : Int)] w fun e w' => OptRet (scan kk len rs 0 (12 + q.length) none) e ∧ Below w.heap.size w w') := by
    intro w hF h
    rw [← hl2L]
    exact HF w hF h hok hn hkk hn300 hat (by omega) (by omega) a6 a7 a8 a9 a10 a11
  have HL2 : Hid (l2 = lay (put16 l 0 id) 12 (q.take (len - 12))) := by rw [hlen]; exact hl2
  have HLL : Hid (l2.length = len) := hl2L
  have HSB : Hid (∀ d, scan kk len rs 0 (12 + q.length) none = some (some d) → 11 ≤ d ∧ d ≤ len) := scan_bound kk len rs 0 (12 + q.length) none (fun d hd => by cases hd)
  clear h hq hlen hl2 hat a6 a7 a8 a9 a10 a11 hok hn HF hl2L
  go_enter Ybaf.func7, Ybaf.ntmps7
  go_wp2
  refine wp_region_drew_tail 7 (by kernel_rfl) (by kernel_rfl) ?_
  simp only [List.take_succ_cons, List.take_zero, List.drop_succ_cons, List.drop_zero]
  iterate 7 (go_big_quiet_step (fail))
  refine wpQuiet_nil ?_
  intro w1 hw1
  obtain ⟨nq, rfl⟩ := hw1
  go_wp2_with fail
  have C1 := put16_any B g cap 0 len cap l id (w.drewN nq) (H.out.drewN nq) (by omega) (by rw [← HL.out]; omega) hid0 hid1
  refine C1.mono ?_
  rintro e w1 ⟨rfl, hO1, hG1⟩
  have G1 : Hid (w.grownBy w1 (some g)) := grownBy_trans (grownBy_drewN w nq _) hG1
  have O1 : Hid (Own w1 B g cap (put16 l 0 id)) := hO1
  have k0' := G1.out.cell k0 (by simpa using hgs)
  have k3' := G1.out.cell k3 (by simpa using hgs)
  have HQ1 : Hid (Own w1 B' gq qcap q) := HQ.out.kept G1.out (by simpa using hgq)
  clear C1 hO1 hG1 k0 k3
  go_wp2
  refine wp_region_drew_tail 6 (by kernel_rfl) (by kernel_rfl) ?_
  simp only [List.take_succ_cons, List.take_zero, List.drop_succ_cons, List.drop_zero]
  iterate 6 (go_big_quiet_step (fail))
  refine wpQuiet_nil ?_
  intro w2 hw2
  obtain ⟨nq2, rfl⟩ := hw2
  refine wpList_copy_lay rfl (.tmp 16) (.tmp 20) rfl _ _ _ _ _ _ rfl rfl B g cap 12 (put16 l 0 id) q (O1.out.drewN nq2) ?hdp ?hfit rfl ?hsp ?_
  case hdp => intro _; rw [if_neg (by omega)]
  case hfit => rw [put16_length, ← HL.out]; omega
  case hsp =>
    intro _
    refine ⟨_, rfl, fun j v hj => ?_⟩
    have hj' := (List.getElem?_eq_some_iff.1 hj).1
    rw [Addr.add_lit, Nat.zero_add]
    have := (HQ1.out.drewN nq2).cell j (by simpa using hj')
    rw [this, ← hj]
    simp only [List.length_map] at hj'
    simp [List.getD_eq_getElem?_getD, hj']
  intro w3 N hO3 hG3
  have G3 : Hid (w.grownBy w3 (some g)) := grownBy_trans (grownBy_trans G1.out (grownBy_drewN w1 nq2 _)) hG3
  have k3'' := (show (w1.drewN nq2).grownBy w3 (some g) from hG3).cell (show (w1.drewN nq2).cell? ⟨gs, 3, none⟩ = _ from k3') (by simpa using hgs)
  have O3 : Hid (Own w3 B g cap (lay (put16 l 0 id) 12 (q.take (len - 12)))) := hO3
  clear hO3 hG3 k0' k3' O1 HQ1 G1 HQ
  generalize (if cap = 12 then (some ⟨g, 0, none⟩ : Option Addr) else some ⟨g, 12, none⟩) = dp
  go_wp2_with fail
  have hw3 : F.answers w3.tape := by rw [G3.out.tape]; exact hF
  have hO2 : Own w3 B g cap l2 := by rw [HL2.out]; exact O3.out
  have C8 := HX.out w3 hw3 hO2
  rw [show (((12 + q.length : Nat) : Int)) = 12 + (q.length : Int) by omega] at C8
  refine C8.mono ?_
  rintro e w4 ⟨hret, hb4⟩
  have G4 : Hid (w.grownBy w4 (some g)) := grownBy_trans G3.out (grownBy_of_below hb4 _)
  have O4 : Hid (Own w4 B g cap l2) := hO2.kept (grownBy_of_below hb4 none) (by simp)
  have HR : Hid (OptRet (scan kk len rs 0 (12 + q.length) none) e) := hret
  clear C8 hw3 hO2 hret hb4 O3 G3 HX k3''
  cases hres : scan kk len rs 0 (12 + q.length) none with
  | none =>
    have hret := HR.out
    rw [hres] at hret
    obtain ⟨b, rfl⟩ := hret
    clear HR HSB
    unfold zeroRec
    have HE : Hid (scan kk len rs 0 (12 + q.length) none = none) := hres
    clear hres
    go_wp2
    go_end0
    refine ⟨rfl, ?_, ?_⟩
    · rw [HE.out]; exact O4.out.alloc _
    · exact grownBy_trans G4.out (World.grownBy_alloc _ _ _)
  | some o =>
    cases o with
    | none =>
      have hret := HR.out
      rw [hres] at hret
      obtain rfl := hret
      clear HR HSB
      unfold zeroRec
      have HE : Hid (scan kk len rs 0 (12 + q.length) none = some none) := hres
      clear hres
      go_wp2
      go_end0
      refine ⟨rfl, ?_, ?_⟩
      · rw [HE.out]; exact O4.out.alloc _
      · exact grownBy_trans G4.out (World.grownBy_alloc _ _ _)
    | some d =>
      have hret := HR.out
      have hbd := HSB.out d hres
      rw [hres] at hret
      obtain ⟨t, c, y, x, rfl⟩ := hret
      clear HR HSB
      have HE : Hid (scan kk len rs 0 (12 + q.length) none = some (some d)) := hres
      clear hres
      obtain ⟨hd1, hd2⟩ := hbd
      obtain ⟨dd, hdd⟩ : ∃ dd, d = dd + 8 := ⟨d - 8, by omega⟩
      subst hdd
      have e1 : (((dd + 8 : Nat) : Int) - 8) = (dd : Int) := by omega
      have m1 : ¬ cap = dd := by omega
      go_wp2
      refine wp_region_drew_tail 6 (by kernel_rfl) (by kernel_rfl) ?_
      simp only [List.take_succ_cons, List.take_zero, List.drop_succ_cons, List.drop_zero]
      iterate 6 (go_big_quiet_step (fail))
      refine wpQuiet_nil ?_
      intro w5 hw5
      obtain ⟨nq5, rfl⟩ := hw5
      go_wp2_with fail
      refine (put16_any B g cap dd (len - dd) (cap - dd) l2 1232 _ ((O4.out.alloc _).drewN nq5) (by omega) (by rw [HLL.out]; omega) (by omega) (by omega)).mono ?_
      rintro e w6 ⟨rfl, hO6, hG6⟩
      have O6 : Hid (Own w6 B g cap (put16 l2 dd 1232)) := hO6
      have G6 : Hid (w.grownBy w6 (some g)) := grownBy_trans (grownBy_trans G4.out (World.grownBy_alloc _ _ _)) (grownBy_trans (grownBy_drewN _ nq5 _) hG6)
      clear hO6 hG6
      go_wp2
      go_end0
      refine ⟨rfl, ?_, G6.out⟩
      rw [HE.out]
      exact O6.out
end Go.Proofs.YbulkadjmFmt
