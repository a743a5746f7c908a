import Derived.Test.YbulkadlcNeaF
namespace Go.Proofs.Ybulkadlc
open Go.RowKit Go.QuietTail
set_option linter.unusedVariables false
set_option linter.unusedSimpArgs false

theorem nearest_any (N g n B B' : Nat) (me : List Int) (vp vs vq : Value) (after : Bool) (L X : List (List Int)) (w : World) (hm : IdOk me) (hL : IsOk L) (hX : IsOk X) (hn : n = L.length) (hn3 : n ≤ 3) (hxl : X.length ≤ 500) (hB : B ≤ w.heap.size)
    (hN : NT w N me vp vs) (hI : Ids w B (.slice (some ⟨g, 0, none⟩) n 6) L) (hQ : Ids w B' vq X) (hne : vq.ownBlock ≠ some g) :
    Calls Yba.prog 41 #[.pointer (some ⟨N, 0, none⟩), .slice (some ⟨g, 0, none⟩) n 6, vq, .bool after] w fun e w' => ∃ l : List (List Int), Near (kd me after) X l ∧ IsOk l ∧
      e = .returned (.slice (some ⟨g, 0, none⟩) (n + l.length) 6) ∧ Ids w' B (.slice (some ⟨g, 0, none⟩) (n + l.length) 6) (L ++ l) ∧ w.grownBy w' (some g) := by
  cases after with
  | true => exact nearest_T N g n B B' me vp vs vq true L X w hm hL hX hn hn3 hxl hB hN hI hQ hne (show true = true from rfl)
  | false => exact nearest_F N g n B B' me vp vs vq false L X w hm hL hX hn hn3 hxl hB hN hI hQ hne (show false = false from rfl)

theorem idsR_head {w : World} {B g n c : Nat} {p s : List (List Int)} (h : Ids w B (.slice (some ⟨g, 0, none⟩) n c) (p ++ s)) (hp : IsOk p) (hs : IsOk s) (hg : g < w.heap.size) (c' : Nat) : IdsR w (.slice (some ⟨g, 0, none⟩) p.length c') p :=
  ⟨_, c', rfl, (fun h => by cases h), fun _ => ⟨g, 0, rfl, hg, fun j x hj => by
    rw [Nat.zero_add]
    exact h.range (fun y hy => (List.mem_append.1 hy).elim (hp y) (hs y)) (by rw [List.getElem?_append_left (List.getElem?_eq_some_iff.1 hj).1]; exact hj)⟩⟩
theorem idsR_tail {w : World} {B g n c : Nat} {p s : List (List Int)} (h : Ids w B (.slice (some ⟨g, 0, none⟩) n c) (p ++ s)) (hp : IsOk p) (hs : IsOk s) (hg : g < w.heap.size) (c' : Nat) : IdsR w (.slice (some ⟨g, p.length * 16, none⟩) s.length c') s :=
  ⟨_, c', rfl, (fun h => by cases h), fun _ => ⟨g, p.length * 16, rfl, hg, fun j x hj => by
    have := h.range (j := p.length + j) (fun y hy => (List.mem_append.1 hy).elim (hp y) (hs y)) (x := x) (by rw [List.getElem?_append_right (by omega), Nat.add_sub_cancel_left]; exact hj)
    rw [show p.length * 16 + j * 16 = (p.length + j) * 16 by omega]
    exact this⟩⟩
theorem NT.set {w : World} {N : Nat} {me : List Int} {vp vs : Value} (h : NT w N me vp vs) (hm : me.length = 16) (a b : Value) : NT ((w.setCell ⟨N, 16, none⟩ a).setCell ⟨N, 17, none⟩ b) N me a b := by
  have h1 := heap_setCell_same w N 16 _ 30 a h
  have h2 := heap_setCell_same (w.setCell ⟨N, 16, none⟩ a) N 17 _ 30 b h1
  unfold NT
  rw [h2]
  simp [cellsId, List.set_append, hm]
theorem IdsR.ne30 {w : World} {N : Nat} {me : List Int} {vp vs v : Value} {ss : List (List Int)} (h : IdsR w v ss) (hN : NT w N me vp vs) (hty : ∀ b o n c, v = .slice (some ⟨b, o, none⟩) n c → 0 < n → ∃ cs fr, w.heap[b]? = some (.cells cs 23 fr)) : ∀ b o n c, v = .slice (some ⟨b, o, none⟩) n c → 0 < n → some b ≠ some N := fun b o n c hv h0 e => by
  obtain ⟨cs, fr, hb⟩ := hty b o n c hv h0
  cases e
  rw [show w.heap[N]? = _ from hN] at hb
  simp at hb

set_option maxHeartbeats 2000000 in
theorem choose_any (N B' : Nat) (me : List Int) (vp vs vq : Value) (p s X : List (List Int)) (w : World) (hm : IdOk me) (hp : IsOk p) (hs : IsOk s) (lp : p.length ≤ 64) (ls : s.length ≤ 64) (hX : IsOk X) (hxl : X.length ≤ 500)
    (hN : NT w N me vp vs) (hP : IdsR w vp p) (hS : IdsR w vs s) (hQ : Ids w B' vq X) :
    Calls Yba.prog 31 #[.pointer (some ⟨N, 0, none⟩), vq] w fun e w' => ∃ (p' s' : List (List Int)) (vp' vs' : Value), (Near (kd me false) X p' ∧ Near (kd me true) X s' ∧ IsOk p' ∧ IsOk s') ∧ e = .returned (.bool (!decide (p' = p) || !decide (s' = s))) ∧
      NT w' N me vp' vs' ∧ IdsR w' vp' p' ∧ IdsR w' vs' s' ∧ w.grownBy w' (some N) ∧ (∀ b o n c, vp' = .slice (some ⟨b, o, none⟩) n c → w.heap.size ≤ b) ∧ (∀ b o n c, vs' = .slice (some ⟨b, o, none⟩) n c → w.heap.size ≤ b) := by
  obtain ⟨i0, hi0, hz0, hz1, hz2⟩ := info_parts info23z
  have HN : Hid (NT w N me vp vs) := hN
  have HP : Hid (IdsR w vp p) := hP
  have HS : Hid (IdsR w vs s) := hS
  have HQ : Hid (Ids w B' vq X) := hQ
  have HPF : Hid (∃ pp pc, vp = .slice pp p.length pc) := let ⟨a, b, h, _⟩ := hP; ⟨a, b, h⟩
  have HSF : Hid (∃ pp pc, vs = .slice pp s.length pc) := let ⟨a, b, h, _⟩ := hS; ⟨a, b, h⟩
  have HNE : Hid (vq.ownBlock ≠ some w.heap.size) := fun e => by have := (World.ownsRow.lt hQ _ e).2; omega
  obtain ⟨pp, pc, hvp⟩ := HPF.out
  obtain ⟨sp, sc, hvs⟩ := HSF.out
  subst hvp
  subst hvs
  obtain ⟨lpn, hlpn⟩ : ∃ k, k = p.length := ⟨_, rfl⟩
  obtain ⟨lsn, hlsn⟩ : ∃ k, k = s.length := ⟨_, rfl⟩
  rw [← hlpn, ← hlsn] at HN
  rw [← hlpn] at HP
  rw [← hlsn] at HS
  clear hN hQ hP hS HPF HSF hlpn hlsn
  go_enter Yba.func31, Yba.ntmps31
  go_wp2_with (at_make; refine wpList_make_own _ rfl _ _ 24 rfl w.heap.size 23 i0 _ 16 Yba.underlying24 hi0 hz0 hz1 _ _ _ 6 rfl rfl rfl (by rw [hz2]; decide) (by decide) (Nat.le_refl _) ?_; intro w1 hO1 hG1; have HB1 : Hid (Below w.heap.size w w1) := (Below.refl _ w).grown hG1 (Nat.le_refl _) (by intro k hk; cases hk); have HI1 : Hid (Ids w1 w.heap.size (.slice (some ⟨w.heap.size, 0, none⟩) 0 6) []) := hO1; clear hO1 hG1)
  refine (nearest_any N w.heap.size 0 w.heap.size B' me _ _ vq false [] X w1 hm (fun x hx => by simp at hx) hX rfl (by omega) hxl HB1.out.size (HN.out.later HB1.out) HI1.out (HQ.out.later HB1.out) HNE.out).mono ?_
  rintro e w2 ⟨p', hNp, hop, rfl, hI2, hg2⟩
  have HB2 : Hid (Below w.heap.size w w2) := HB1.out.grown hg2 HB1.out.size (by rintro k ⟨⟩; exact Nat.le_refl _)
  have HI2 : Hid (Ids w2 w.heap.size (.slice (some ⟨w.heap.size, 0, none⟩) p'.length 6) p') := by
    have h1 := hI2
    rw [Nat.zero_add, List.nil_append] at h1
    exact h1
  have hp3 := hNp.len
  obtain ⟨np, hnp⟩ : ∃ np, np = p'.length := ⟨_, rfl⟩
  have HNP : Hid (np = p'.length) := hnp
  rw [Nat.zero_add]
  rw [← hnp] at HI2 hp3 ⊢
  clear hnp hI2 hg2 HB1 HI1
  go_wp2_with fail
  refine (nearest_any N w.heap.size np w.heap.size B' me _ _ vq true p' X w2 hm hop hX HNP.out (by omega) hxl HB2.out.size (HN.out.later HB2.out) HI2.out (HQ.out.later HB2.out) HNE.out).mono ?_
  rintro e w3 ⟨s', hNs, hos, rfl, hI3, hg3⟩
  have HB3 : Hid (Below w.heap.size w w3) := HB2.out.grown hg3 HB2.out.size (by rintro k ⟨⟩; exact Nat.le_refl _)
  have HI3 : Hid (Ids w3 w.heap.size (.slice (some ⟨w.heap.size, 0, none⟩) (np + s'.length) 6) (p' ++ s')) := hI3
  have hs3 := hNs.len
  obtain ⟨ns, hns⟩ : ∃ ns, ns = s'.length := ⟨_, rfl⟩
  have HNS : Hid (ns = s'.length) := hns
  rw [← hns] at HI3 hs3 ⊢
  have HNR : Hid (Near (kd me false) X p' ∧ Near (kd me true) X s' ∧ IsOk p' ∧ IsOk s') := ⟨hNp, hNs, hop, hos⟩
  clear hns hI3 hg3 HB2 HI2 hNp hNs
  have HG3 : Hid (w.heap.size < w3.heap.size) := (World.ownsRow.lt HI3.out _ rfl).2
  have b1 : (np : Int) ≤ 6 := by omega
  have b2 : (np : Int) ≤ (np : Int) + (ns : Int) := by omega
  have b3 : ¬ (6 = np) := by omega
  go_wp2
  go_quiet (fail)
  have HP1 : Hid (IdsR w3 (.slice (some ⟨w.heap.size, 0, none⟩) np np) p') := by
    have := idsR_head HI3.out hop hos HG3.out np
    rw [← HNP.out] at this
    exact this
  have HS1 : Hid (IdsR w3 (.slice (some ⟨w.heap.size, np * 16, none⟩) ns (6 - np)) s') := by
    have := idsR_tail HI3.out hop hos HG3.out (6 - np)
    rw [← HNP.out, ← HNS.out] at this
    exact this
  have HB4 : Hid (Below w.heap.size w (w3.drewN nq)) := below_drewN HB3.out nq
  have HP4 : Hid (IdsR (w3.drewN nq) (.slice (some ⟨w.heap.size, 0, none⟩) np np) p') := HP1.out.later (below_drewN (Below.refl _ w3) nq)
  have HS4 : Hid (IdsR (w3.drewN nq) (.slice (some ⟨w.heap.size, np * 16, none⟩) ns (6 - np)) s') := HS1.out.later (below_drewN (Below.refl _ w3) nq)
  clear HP1 HS1 HI3 HG3 HB3
  generalize w3.drewN nq = w4 at *
  have HP1 : Hid (IdsR w4 (.slice (some ⟨w.heap.size, 0, none⟩) np np) p') := HP4.out
  have HS1 : Hid (IdsR w4 (.slice (some ⟨w.heap.size, np * 16, none⟩) ns (6 - np)) s') := HS4.out
  clear HP4 HS4
  have HN4 : Hid (NT w4 N me (.slice pp lpn pc) (.slice sp lsn sc)) := HN.out.later HB4.out
  have c16 := HN4.out.cP hm.1
  have HE1 : Hid (Calls Yba.prog 16 #[.slice (some ⟨w.heap.size, 0, none⟩) np np, .slice pp lpn pc] w4 fun e w' => e = .returned (.bool (decide (p' = p))) ∧ Below w4.heap.size w4 w') := equal_any _ _ p' p hop hp (by have := HNP.out; omega) (by omega) w4 HP1.out (HP.out.later HB4.out)
  have HE2 : Hid (∀ W, Below w4.heap.size w4 W → Calls Yba.prog 16 #[.slice (some ⟨w.heap.size, np * 16, none⟩) ns (6 - np), .slice sp lsn sc] W fun e w' => e = .returned (.bool (decide (s' = s))) ∧ Below W.heap.size W w') := fun W hW => equal_any _ _ s' s hos hs (by have := HNS.out; omega) (by omega) W (HS1.out.later hW) ((HS.out.later HB4.out).later hW)
  by_cases hpe : p' = p
  · have hpe' : decide (p' = p) = true := decide_eq_true hpe
    clear hpe
    by_cases hse : s' = s
    · have hse' : decide (s' = s) = true := decide_eq_true hse
      clear hse
      go_wp2_with (first | (go_at_call 16; refine (HE2.out w5 HB5.out).mono ?_; rintro e w6 ⟨rfl, hb6⟩; rw [hse']; have HB6 : Hid (Below w4.heap.size w4 w6) := HB5.out.trans (hb6.mono HB5.out.size); have g16' := (HN4.out.later HB6.out).cP hm.1; have g17' := (HN4.out.later HB6.out).cS hm.1; have f16' : w6.frozen? ⟨N, 16, none⟩ = false := frozen_of_row w6 N 16 _ 30 (HN4.out.later HB6.out); have f17' : w6.frozen? ⟨N, 17, none⟩ = false := frozen_of_row w6 N 17 _ 30 (HN4.out.later HB6.out); clear hb6) | (go_at_call 16; refine (HE1.out).mono ?_; rintro e w5 ⟨rfl, hb5⟩; rw [hpe']; have HB5 : Hid (Below w4.heap.size w4 w5) := hb5; have c17 := (HN4.out.later hb5).cS hm.1; have g16 := (HN4.out.later hb5).cP hm.1; have f16 : w5.frozen? ⟨N, 16, none⟩ = false := frozen_of_row w5 N 16 _ 30 (HN4.out.later hb5); have f17 : w5.frozen? ⟨N, 17, none⟩ = false := frozen_of_row w5 N 17 _ 30 (HN4.out.later hb5); clear hb5))
      go_ret
      have hLL : Below w.heap.size w w6 := HB4.out.trans (HB6.out.mono HB4.out.size)
      refine ⟨p', s', _, _, HNR.out, by rw [hpe', hse']; rfl, (HN4.out.later HB6.out).set hm.1 _ _, ?_, ?_, ?_, ?_, ?_⟩
      · refine ((HP1.out.later HB6.out).same (grownBy_setCell w6 N 16 _) (fun b o n c hv _ => ?_)).same (grownBy_setCell _ N 17 _) (fun b o n c hv _ => ?_) <;> (simp only [Value.slice.injEq, Option.some.injEq, Addr.mk.injEq] at hv; have := HN.out.lt; have := hv.1.1; simp; omega)
      · refine ((HS1.out.later HB6.out).same (grownBy_setCell w6 N 16 _) (fun b o n c hv _ => ?_)).same (grownBy_setCell _ N 17 _) (fun b o n c hv _ => ?_) <;> (simp only [Value.slice.injEq, Option.some.injEq, Addr.mk.injEq] at hv; have := HN.out.lt; have := hv.1.1; simp; omega)
      · exact grownBy_trans (grownBy_trans (grownBy_of_below hLL _) (grownBy_setCell _ _ _ _)) (grownBy_setCell _ _ _ _)
      · intro b o n c hv; simp only [Value.slice.injEq, Option.some.injEq, Addr.mk.injEq] at hv; have := hv.1.1; omega
      · intro b o n c hv; simp only [Value.slice.injEq, Option.some.injEq, Addr.mk.injEq] at hv; have := hv.1.1; omega
    · have hse' : decide (s' = s) = false := decide_eq_false hse
      clear hse
      go_wp2_with (first | (go_at_call 16; refine (HE2.out w5 HB5.out).mono ?_; rintro e w6 ⟨rfl, hb6⟩; rw [hse']; have HB6 : Hid (Below w4.heap.size w4 w6) := HB5.out.trans (hb6.mono HB5.out.size); have g16' := (HN4.out.later HB6.out).cP hm.1; have g17' := (HN4.out.later HB6.out).cS hm.1; have f16' : w6.frozen? ⟨N, 16, none⟩ = false := frozen_of_row w6 N 16 _ 30 (HN4.out.later HB6.out); have f17' : w6.frozen? ⟨N, 17, none⟩ = false := frozen_of_row w6 N 17 _ 30 (HN4.out.later HB6.out); clear hb6) | (go_at_call 16; refine (HE1.out).mono ?_; rintro e w5 ⟨rfl, hb5⟩; rw [hpe']; have HB5 : Hid (Below w4.heap.size w4 w5) := hb5; have c17 := (HN4.out.later hb5).cS hm.1; have g16 := (HN4.out.later hb5).cP hm.1; have f16 : w5.frozen? ⟨N, 16, none⟩ = false := frozen_of_row w5 N 16 _ 30 (HN4.out.later hb5); have f17 : w5.frozen? ⟨N, 17, none⟩ = false := frozen_of_row w5 N 17 _ 30 (HN4.out.later hb5); clear hb5))
      go_ret
      have hLL : Below w.heap.size w w6 := HB4.out.trans (HB6.out.mono HB4.out.size)
      refine ⟨p', s', _, _, HNR.out, by rw [hpe', hse']; rfl, (HN4.out.later HB6.out).set hm.1 _ _, ?_, ?_, ?_, ?_, ?_⟩
      · refine ((HP1.out.later HB6.out).same (grownBy_setCell w6 N 16 _) (fun b o n c hv _ => ?_)).same (grownBy_setCell _ N 17 _) (fun b o n c hv _ => ?_) <;> (simp only [Value.slice.injEq, Option.some.injEq, Addr.mk.injEq] at hv; have := HN.out.lt; have := hv.1.1; simp; omega)
      · refine ((HS1.out.later HB6.out).same (grownBy_setCell w6 N 16 _) (fun b o n c hv _ => ?_)).same (grownBy_setCell _ N 17 _) (fun b o n c hv _ => ?_) <;> (simp only [Value.slice.injEq, Option.some.injEq, Addr.mk.injEq] at hv; have := HN.out.lt; have := hv.1.1; simp; omega)
      · exact grownBy_trans (grownBy_trans (grownBy_of_below hLL _) (grownBy_setCell _ _ _ _)) (grownBy_setCell _ _ _ _)
      · intro b o n c hv; simp only [Value.slice.injEq, Option.some.injEq, Addr.mk.injEq] at hv; have := hv.1.1; omega
      · intro b o n c hv; simp only [Value.slice.injEq, Option.some.injEq, Addr.mk.injEq] at hv; have := hv.1.1; omega
  · have hpe' : decide (p' = p) = false := decide_eq_false hpe
    clear hpe
    go_wp2_with ((go_at_call 16; refine (HE1.out).mono ?_; rintro e w5 ⟨rfl, hb5⟩; rw [hpe']; have HB5 : Hid (Below w4.heap.size w4 w5) := hb5; have c17 := (HN4.out.later hb5).cS hm.1; have g16 := (HN4.out.later hb5).cP hm.1; have f16 : w5.frozen? ⟨N, 16, none⟩ = false := frozen_of_row w5 N 16 _ 30 (HN4.out.later hb5); have f17 : w5.frozen? ⟨N, 17, none⟩ = false := frozen_of_row w5 N 17 _ 30 (HN4.out.later hb5); clear hb5))
    go_ret
    have hLL : Below w.heap.size w w5 := HB4.out.trans (HB5.out.mono HB4.out.size)
    refine ⟨p', s', _, _, HNR.out, by rw [hpe']; rfl, (HN4.out.later HB5.out).set hm.1 _ _, ?_, ?_, ?_, ?_, ?_⟩
    · refine ((HP1.out.later HB5.out).same (grownBy_setCell w5 N 16 _) (fun b o n c hv _ => ?_)).same (grownBy_setCell _ N 17 _) (fun b o n c hv _ => ?_) <;> (simp only [Value.slice.injEq, Option.some.injEq, Addr.mk.injEq] at hv; have := HN.out.lt; have := hv.1.1; simp; omega)
    · refine ((HS1.out.later HB5.out).same (grownBy_setCell w5 N 16 _) (fun b o n c hv _ => ?_)).same (grownBy_setCell _ N 17 _) (fun b o n c hv _ => ?_) <;> (simp only [Value.slice.injEq, Option.some.injEq, Addr.mk.injEq] at hv; have := HN.out.lt; have := hv.1.1; simp; omega)
    · exact grownBy_trans (grownBy_trans (grownBy_of_below hLL _) (grownBy_setCell _ _ _ _)) (grownBy_setCell _ _ _ _)
    · intro b o n c hv; simp only [Value.slice.injEq, Option.some.injEq, Addr.mk.injEq] at hv; have := hv.1.1; omega
    · intro b o n c hv; simp only [Value.slice.injEq, Option.some.injEq, Addr.mk.injEq] at hv; have := hv.1.1; omega
end Go.Proofs.Ybulkadlc
