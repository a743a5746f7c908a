/-
  A REGION THAT DRAWS ITS ORDER WHOSE HEAD (the first n operations) IS QUIET IN A CLASS C OF WORLDS AND WHOSE TAIL IS FORCED (one operation behind the other): the head is walked once, in the text's order; the tail as a plain list, in every world of the class.
  (The library has the head that leaves the world alone and a forced tail, wp_region_still_tail, and the whole region quiet in a class, wp_region_quiet: here the two together.)
-/
import Derived.StillTail
import Derived.Deep.Quiet
import Derived.Below
namespace Go.QuietTail
open Go Go.RowKit

section
variable {P : Program} {ops : Array Oper} {md : Region.Mode} {C : World → Prop}

/-- Whatever order the head's operations are taken in: f of them are left; behind them L. -/
def HeadQ (P : Program) (md : Region.Mode) (ops : Array Oper) (C : World → Prop) (n : Nat) (L : Array Bool → Act → Prop) : Nat → Array Bool → Act → Prop
  | 0, listed, a => L listed a
  | f + 1, listed, a => Region.ready md ops listed ≠ [] ∧ ∀ i ∈ Region.ready md ops listed, i < n ∧ qOp P ops C i (HeadQ P md ops C n L f (listed.setIfInBounds i true)) a

theorem HeadQ.any {n g : Nat} {L : Array Bool → Act → Prop} {Q' : Exit → Act → World → Prop} (hL : ∀ listed a w, C w → L listed a → wpAny P md ops Q' g listed a w) (f : Nat) :
    ∀ (listed : Array Bool) (a : Act) (w : World), C w → HeadQ P md ops C n L f listed a → wpAny P md ops Q' (f + g) listed a w := by
  induction f with
  | zero => intro listed a w hw h; rw [Nat.zero_add]; exact hL _ _ _ hw h
  | succ f ih =>
    intro listed a w hw h
    rw [show f + 1 + g = (f + g) + 1 by omega]
    exact ⟨fun h0 => absurd h0 h.1, fun i hi => wpOp_of_qOp hw (fun a' w' hw' h' => ih _ a' w' hw' h') (h.2 i hi).2⟩

/-- While the head has an operation left, none of the tail may come up. -/
theorem ready_head {n i : Nat} {listed : Array Bool} (hs : Region.sinkB md ops n = true) (hc : Region.chainB md ops n = true) (hn : n < ops.size) (inv : HeadInv md ops n listed) (hin : i < n)
    (hun : listed.getD i true = false) : ∀ j ∈ Region.ready md ops listed, j < n := by
  intro j hj
  rcases Nat.lt_or_ge j n with h | h
  · exact h
  · exact absurd hj (tail_waits hs hc hn inv _ i rfl hin hun j h)

/-- A head's operation that may come up, that yields its value in every world of the class, and from which all others are apart unless they wait for it, may be taken first. -/
theorem HeadQ.first {n i : Nat} {oi : Oper} {v : Value} {L : Array Bool → Act → Prop} (hi : ops[i]? = some oi) (hsel : ∀ (j : Nat) (o : Oper) cs b, ops[j]? = some o → o.op ≠ .select cs b)
    (hs : Region.sinkB md ops n = true) (hc : Region.chainB md ops n = true) (hn : n < ops.size) (hin : i < n) (hdone : ∀ listed a, L listed a → ∀ j ∈ Region.ready md ops listed, n ≤ j) (f : Nat) :
    ∀ (listed : Array Bool) (a : Act), HeadInv md ops n listed →
      (∀ j oj, ops[j]? = some oj → j ≠ i → listed.getD j true = false → (∀ e ∈ oj.after, Region.binds md e = true → e.on ≠ i) → oi.apart ops oj = true) →
      i ∈ Region.ready md ops listed → YieldsIn P ops C oi v a → HeadQ P md ops C n L f (listed.setIfInBounds i true) (a.put oi.dst v) → HeadQ P md ops C n L (f + 1) listed a := by
  induction f with
  | zero =>
    intro listed a inv _ hr hy H
    have hlt := ready_head hs hc hn inv hin (mem_ready.1 hr).1
    refine ⟨List.ne_nil_of_mem hr, fun j hj => ⟨hlt j hj, ?_⟩⟩
    by_cases hji : j = i
    · subst hji; exact hy.qOp hi H
    · have h1 := hdone _ _ H j (ready_mono hj hji)
      have h2 := hlt j hj
      omega
  | succ f ih =>
    intro listed a inv hfree hr hy H
    have hun := (mem_ready.1 hr).1
    have hlt := ready_head hs hc hn inv hin hun
    refine ⟨List.ne_nil_of_mem hr, fun j hj => ⟨hlt j hj, ?_⟩⟩
    by_cases hji : j = i
    · subst hji; exact hy.qOp hi H
    · obtain ⟨hjun, oj, hoj, hall⟩ := mem_ready.1 hj
      have hnot : ∀ e ∈ oj.after, Region.binds md e = true → e.on ≠ i := fun e he hb heq => by
        have h1 := hall e he hb
        rw [heq, getD_both hun] at h1
        cases h1
      have hfree' : ∀ k ok, ops[k]? = some ok → k ≠ i → (listed.setIfInBounds j true).getD k true = false → (∀ e ∈ ok.after, Region.binds md e = true → e.on ≠ i) → oi.apart ops ok = true := by
        intro k ok hk hki hku hno
        by_cases hjk : j = k
        · subst hjk; exact hfree j ok hk hki hjun hno
        · rw [getD_set_ne true hjk] at hku; exact hfree k ok hk hki hku hno
      refine qOp_mono (fun a' h3 => ih _ a' (inv.set hj (hlt j hj)) hfree' (ready_mono hr (Ne.symm hji)) h3.1 ?_)
        (qOp_put hoj (hfree j oj hoj hji hjun hnot) (fun cs b => hsel i oi cs b hi) (fun cs b => hsel j oj cs b hoj) hy (H.2 j (ready_mono hj hji)).2)
      rw [Array.setIfInBounds_comm _ _ hji]
      exact h3.2

theorem HeadQ.lex {n g : Nat} {Lq : Act → Prop} (hsel : Region.noSelect ops = true) (hs : Region.sinkB md ops n = true) (hc : Region.chainB md ops n = true) (hn : n < ops.size) (l : List Oper) :
    ∀ (k : Nat) (listed : Array Bool) (a : Act), (∀ j, j < l.length → l[j]? = ops[k + j]?) → k + l.length = n → HeadInv md ops n listed → Region.lexHead md ops g l.length k listed = true →
    wpQuiet P ops C Lq l a → HeadQ P md ops C n (fun listed' a' => Region.seqB md ops g n listed' = true ∧ Lq a') l.length listed a := by
  induction l with
  | nil =>
    intro k listed a _ hk _ hB h
    obtain rfl : k = n := by simpa using hk
    exact ⟨by simpa [Region.lexHead] using hB, h⟩
  | cons o l ih =>
    intro k listed a hl hk inv hB h
    have h0 : ops[k]? = some o := by simpa using (hl 0 (by simp)).symm
    simp only [List.length_cons, Region.lexHead, Bool.and_eq_true] at hB
    simp only [List.length_cons] at hk
    have hr : k ∈ Region.ready md ops listed := by simpa using hB.1.1
    have hst : qOp P ops C k (wpQuiet P ops C Lq l) a := by unfold qOp; simp only [h0]; exact h
    obtain ⟨v, hy, hK⟩ := yieldsIn_of_qOp h0 hst
    refine HeadQ.first h0 (Region.noSelect_spec hsel) hs hc hn (by omega) (fun listed' a' hL => seqB_ready hL.1) l.length listed a inv (Region.free_spec h0 hB.1.2) hr hy ?_
    exact ih (k + 1) _ _ (fun j hj => by have := hl (j + 1) (by simp; omega); simpa [Nat.add_assoc, Nat.add_comm 1 j] using this) (by omega) (inv.set hr (by omega)) hB.2 hK

/-- The law. -/
theorem wp_region_quiet_tail {id : Nat} {Q : Exit → Act → World → Prop} {a : Act} {w : World} {l : List Oper} (n : Nat) (hm : P.follows .mixedOrders = true) (hB : Region.lexTailB .any l.toArray n = true)
    (hC : C { w with drawn := w.drawn + 1 }) (h : wpQuiet P l.toArray C (fun a' => ∀ w', C w' → wpList P l.toArray Q (l.drop n) a' w') (l.take n) a) : (Code.region id l.toArray true).wp P Q a w := by
  simp only [Region.lexTailB, Bool.and_eq_true, decide_eq_true_eq] at hB
  obtain ⟨⟨⟨⟨hsel, hn⟩, hs⟩, hc⟩, hlex⟩ := hB
  have hn' : n < l.length := by simpa using hn
  have htl : (l.take n).length = n := by simp; omega
  have hdl : (l.drop n).length = l.toArray.size - n := by simp
  have inv0 : HeadInv .any l.toArray n (Array.replicate l.toArray.size false) :=
    ⟨by simp, fun j oj _ hl => (by rw [getD_replicate_false] at hl; cases hl), fun t _ ht => getD_in (by simpa using ht) (getD_replicate_false _ _)⟩
  have H := HeadQ.lex (md := .any) (g := l.toArray.size - n) hsel hs hc hn (l.take n) 0 _ a (fun j hj => by
    have hj' : j < n := by rw [htl] at hj; exact hj
    simp [hj']) (by simpa using htl) inv0 (by rw [htl]; exact hlex) h
  have key := HeadQ.any (Q' := Q) (g := l.toArray.size - n) (fun listed a' w' hw' hL => by
    have t := wpAny_of_seq (md := .any) (Q' := Q) (l.drop n) n listed a' w' (fun j => by simp [List.getElem?_drop]) (by rw [hdl]; exact hL.1) (hL.2 w' hw')
    rwa [hdl] at t) _ _ _ _ hC H
  rw [htl, show n + (l.toArray.size - n) = l.toArray.size by omega] at key
  exact wp_region_any hm key

/-- The class 'W after draws' (no call in the head). -/
theorem wp_region_drew_tail {id : Nat} {Q : Exit → Act → World → Prop} {a : Act} {w : World} {l : List Oper} (n : Nat) (hm : P.follows .mixedOrders = true) (hB : Region.lexTailB .any l.toArray n = true)
    (h : wpQuiet P l.toArray (fun w' => ∃ n, w' = w.drewN n) (fun a' => ∀ w', (∃ n, w' = w.drewN n) → wpList P l.toArray Q (l.drop n) a' w') (l.take n) a) : (Code.region id l.toArray true).wp P Q a w :=
  wp_region_quiet_tail n hm hB ⟨1, rfl⟩ h
end

/-- A WORLD LATER THAN W: nothing that was there has turned. -/
structure Later (W : World) where
  w : World
  h : Below W.heap.size W w

theorem Later.ex {W w' : World} (h : Below W.heap.size W w') : ∃ p : Later W, w' = p.w := ⟨⟨w', h⟩, rfl⟩

/-- The class 'later than w' (the head's calls may lay new blocks). -/
theorem wp_region_later_tail {P : Program} {id : Nat} {Q : Exit → Act → World → Prop} {a : Act} {w : World} {l : List Oper} (n : Nat) (hm : P.follows .mixedOrders = true) (hB : Region.lexTailB .any l.toArray n = true)
    (h : wpQuiet P l.toArray (fun w' => ∃ p : Later w, w' = p.w) (fun a' => ∀ w', (∃ p : Later w, w' = p.w) → wpList P l.toArray Q (l.drop n) a' w') (l.take n) a) : (Code.region id l.toArray true).wp P Q a w :=
  wp_region_quiet_tail n hm hB ⟨⟨w.drew, (Below.refl _ _).drew⟩, rfl⟩ h

theorem wp_region_later {P : Program} {id : Nat} {Q : Exit → Act → World → Prop} {a : Act} {w : World} {l : List Oper} (hm : P.follows .mixedOrders = true) (hB : Region.lexB .any l.toArray = true)
    (h : wpQuiet P l.toArray (fun w' => ∃ p : Later w, w' = p.w) (fun a' => ∀ w', (∃ p : Later w, w' = p.w) → Q .normal a' w') l a) : (Code.region id l.toArray true).wp P Q a w :=
  wp_region_quiet (C := fun w' => ∃ p : Later w, w' = p.w) hm hB ⟨⟨w.drew, (Below.refl _ _).drew⟩, rfl⟩ (by simpa using h)

end Go.QuietTail
