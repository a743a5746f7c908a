import Derived.Test.YbulkadlcRef
namespace Go.Proofs.Ybulkadlc
open Go.RowKit Go.QuietTail
set_option linter.unusedVariables false
set_option linter.unusedSimpArgs false

/-- What lies in the law's own memory. -/
structure LSt (w wr : World) (me : List Int) (ss : List (List Int)) (cv : Value) (T sb cb bw : Nat) (vs vf : Value) (l : List Fg) (V : Nat → Bool) : Prop where
  tb : TBlk wr T me (.slice none 0 0) vs vf
  tab : Tab wr w.heap.size vf l
  ids : Ids wr w.heap.size vs ss
  vb : VB wr bw V
  hsb : Blk wr sb me
  hcb : wr.heap[cb]? = some (.cells #[cv] 26 (0, 0))
  bel : Below w.heap.size w wr
  h1 : w.heap.size ≤ T
  h2 : w.heap.size ≤ bw

theorem own_ne {w : World} {B e size n k : Nat} {v : Value} {xs : List Value} {cs : Array Value} {t : TypeId} {fr : Nat × Nat} (h : w.ownsRow B e size v n xs) (hk : w.heap[k]? = some (.cells cs t fr)) (ht : t ≠ e) : v.ownBlock ≠ some k := fun he => by
  rcases h.2 with ⟨hv, _⟩ | ⟨g, cap, cur, hv, _, hg, _⟩
  · rw [hv] at he; cases he
  · rw [hv] at he
    obtain rfl : g = k := by simpa [Value.ownBlock] using he
    rw [hg] at hk
    simp at hk
    exact ht hk.2.1.symm
theorem block_ne {w : World} {i j : Nat} {cs ds : Array Value} {t u : TypeId} {fr gr : Nat × Nat} (hi : w.heap[i]? = some (.cells cs t fr)) (hj : w.heap[j]? = some (.cells ds u gr)) (ht : t ≠ u) : i ≠ j := fun e => by
  subst e
  rw [hi] at hj
  simp at hj
  exact ht hj.2.1

section
variable {w wr w' : World} {me : List Int} {ss : List (List Int)} {cv : Value} {T sb cb bw : Nat} {vs vf : Value} {l : List Fg} {V : Nat → Bool}
theorem LSt.later (h : LSt w wr me ss cv T sb cb bw vs vf l V) (hb : Below wr.heap.size wr w') : LSt w w' me ss cv T sb cb bw vs vf l V :=
  ⟨h.tb.later hb, h.tab.later hb, h.ids.later hb, h.vb.later hb, h.hsb.later hb, by rw [hb.block cb (Array.getElem?_eq_some_iff.1 h.hcb).1]; exact h.hcb, h.bel.trans (hb.mono h.bel.size), h.h1, h.h2⟩
/-- A block of another type than the two is kept by SetFinger. -/
theorem Kept2.at {wr w' : World} {T : Nat} {vp vs vf : Value} {B : Nat} {l : List Fg} {me : List Int} (hk : Kept2 wr w' T vf) (hT : TBlk wr T me vp vs vf) (ht : Tab wr B vf l) {k : Nat} {cs : Array Value} {t : TypeId} {fr : Nat × Nat} (h : wr.heap[k]? = some (.cells cs t fr)) (h33 : t ≠ 33) (h65 : t ≠ 65) : w'.heap[k]? = some (.cells cs t fr) := by
  rw [hk.block k (Array.getElem?_eq_some_iff.1 h).1 (block_ne h hT h33) (own_ne ht h h65)]
  exact h
theorem Kept2.ids {wr w' : World} {T : Nat} {vp vs vf u : Value} {B B' : Nat} {l : List Fg} {me : List Int} {ss : List (List Int)} (hk : Kept2 wr w' T vf) (hT : TBlk wr T me vp vs vf) (ht : Tab wr B vf l) (h : Ids wr B' u ss) : Ids w' B' u ss := by
  refine ⟨h.1, ?_⟩
  rcases h.2 with h0 | ⟨g, cap, cur, hv, hB, hg, rest⟩
  · exact .inl h0
  · exact .inr ⟨g, cap, cur, hv, hB, hk.at hT ht hg (by decide) (by decide), rest⟩
theorem LSt.setF (h : LSt w wr me ss cv T sb cb bw vs vf l V) {vf' : Value} {l' : List Fg} (hk : Kept2 wr w' T vf) (hT : TBlk w' T me (.slice none 0 0) vs vf') (ht : Tab w' w.heap.size vf' l') : LSt w w' me ss cv T sb cb bw vs vf' l' V := by
  refine ⟨hT, ht, hk.ids h.tb h.tab h.ids, ?_, hk.at h.tb h.tab h.hsb (by decide) (by decide), hk.at h.tb h.tab h.hcb (by decide) (by decide), ?_, h.h1, h.h2⟩
  · obtain ⟨cs, h1, h2⟩ := h.vb
    exact ⟨cs, hk.at h.tb h.tab h1 (by decide) (by decide), h2⟩
  · refine ⟨hk.os.trans h.bel.os, hk.tape.trans h.bel.tape, hk.output.trans h.bel.output, Nat.le_trans h.bel.size hk.size, fun k hkk => ?_⟩
    rw [hk.block k (Nat.lt_of_lt_of_le hkk h.bel.size) (by have := h.h1; omega) (fun e => by have := (World.ownsRow.lt h.tab k e).1; omega)]
    exact h.bel.block k hkk
theorem LSt.setV (h : LSt w wr me ss cv T sb cb bw vs vf l V) (e : Nat) (b : Bool) : LSt w (wr.setCell ⟨bw, e, none⟩ (.bool b)) me ss cv T sb cb bw vs vf l (fun i => if i = e then b else V i) := by
  obtain ⟨cs, hv, hv2⟩ := h.vb
  have hg := grownBy_setCell wr bw e (.bool b)
  have key : ∀ {k : Nat} {ds : Array Value} {t : TypeId} {fr : Nat × Nat}, wr.heap[k]? = some (.cells ds t fr) → t ≠ 34 → (wr.setCell ⟨bw, e, none⟩ (.bool b)).heap[k]? = some (.cells ds t fr) := fun {k ds t fr} hk ht => by
    rw [hg.block k (Array.getElem?_eq_some_iff.1 hk).1 (by have := block_ne hk hv ht; simpa using this)]
    exact hk
  refine ⟨key h.tb (by decide), h.tab.kept hg (.inr (own_ne h.tab hv (by decide))), h.ids.kept hg (.inr (own_ne h.ids hv (by decide))), h.vb.set e b, key h.hsb (by decide), key h.hcb (by decide), h.bel.setCell h.h2 _, h.h1, h.h2⟩
theorem LSt.congr (h : LSt w wr me ss cv T sb cb bw vs vf l V) {V' : Nat → Bool} (he : ∀ i, i < 129 → V i = V' i) : LSt w wr me ss cv T sb cb bw vs vf l V' :=
  ⟨h.tb, h.tab, h.ids, h.vb.congr he, h.hsb, h.hcb, h.bel, h.h1, h.h2⟩
end

/-- want[i] = me.Finger(peer) == i is what the fingers then say. -/
theorem valL_set (me : List Int) (l l' : List Fg) (i : Int) (id : List Int) (h : Setted l i id l') (hi : 1 ≤ i) (j : Nat) :
    (if j = i.toNat then fing me id == i else valL me l j) = valL me l' j := by
  obtain ⟨_, _, _, hm⟩ := h
  have key : ∀ (m : List Fg), valL me m j = true ↔ ∃ x ∈ m, x.1 = (j : Int) ∧ fing me x.2 = (j : Int) := fun m => by
    unfold valL
    rw [List.any_eq_true]
    constructor
    · rintro ⟨x, hx, hh⟩
      simp at hh
      exact ⟨x, hx, hh.1, hh.2⟩
    · rintro ⟨x, hx, h1, h2⟩
      exact ⟨x, hx, by simp [h1, h2]⟩
  by_cases hj : j = i.toNat
  · rw [if_pos hj, Bool.eq_iff_iff, key l']
    have hij : i = (j : Int) := by omega
    constructor
    · intro hf
      exact ⟨(i, id), (hm _).2 (.inl rfl), hij, by rw [beq_iff_eq] at hf; rw [← hij]; exact hf⟩
    · rintro ⟨x, hx, h1, h2⟩
      rcases (hm x).1 hx with rfl | ⟨_, hne⟩
      · rw [beq_iff_eq, hij]; exact h2
      · exact absurd (h1.trans hij.symm) hne
  · rw [if_neg hj, Bool.eq_iff_iff, key l, key l']
    constructor
    · rintro ⟨x, hx, h1, h2⟩
      exact ⟨x, (hm x).2 (.inr ⟨hx, by omega⟩), h1, h2⟩
    · rintro ⟨x, hx, h1, h2⟩
      rcases (hm x).1 hx with rfl | ⟨hx', _⟩
      · exfalso; simp at h1; omega
      · exact ⟨x, hx', h1, h2⟩
theorem fb_set (l l' : List Fg) (i : Int) (id : List Int) (h : Setted l i id l') (hi : 1 ≤ i) (hi1 : i ≤ 128) (hb : FB l) : FB l' := fun x hx => by
  rcases (h.2.2.2 x).1 hx with rfl | ⟨hx', _⟩
  · exact ⟨hi, hi1⟩
  · exact hb x hx'
end Go.Proofs.Ybulkadlc
