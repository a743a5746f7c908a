/-
  A RANGE OVER A FUNCTION WHOSE ITERATOR WRITES CELLS OF ITS OWN AND WHOSE BODY READS WHAT IT IS HANDED (two loop variables): the rounds are counted; the contract hands each round a fact about the world it begins in.
-/
import Derived.RangeFuncWrites
import Derived.RangeFuncLeaves
import Derived.RangeFuncCalls
import Derived.ControlIn
namespace Go.CountedRange
open Go Go.RowKit

/-- All blocks of w but those of Ex lie in w' as they lay. -/
structure KeepX (Ex : Nat → Prop) (w w' : World) : Prop where
  size : w.heap.size ≤ w'.heap.size
  same : ∀ k, k < w.heap.size → ¬ Ex k → w'.heap[k]? = w.heap[k]?
theorem KeepX.refl (Ex : Nat → Prop) (w : World) : KeepX Ex w w := ⟨Nat.le_refl _, fun _ _ _ => rfl⟩
theorem KeepX.trans {Ex : Nat → Prop} {a b c : World} (h : KeepX Ex a b) (k : KeepX Ex b c) : KeepX Ex a c :=
  ⟨Nat.le_trans h.size k.size, fun i hi hx => (k.same i (Nat.lt_of_lt_of_le hi h.size) hx).trans (h.same i hi hx)⟩
theorem KeepX.mono {Ex Ex' : Nat → Prop} {a b : World} (h : KeepX Ex a b) (hx : ∀ k, Ex k → Ex' k) : KeepX Ex' a b := ⟨h.size, fun k hk hn => h.same k hk (fun he => hn (hx k he))⟩

/-- How the body of a round may be left. -/
def postX (bc : Nat) (I : Nat → World → Prop) (Ix : Code → Nat → World → Prop) (i : Nat) (W : World) : Exit → Act → World → Prop
  | .normal, _, W' => KeepX (· = bc) W W' ∧ I i W'
  | .ret, _, W' => KeepX (· = bc) W W' ∧ Ix .ret i W'
  | .exit id, _, W' => KeepX (· = bc) W W' ∧ Ix (.exit id) i W'
  | .goto t, _, W' => KeepX (· = bc) W W' ∧ Ix (.goto t) i W'
  | .panic _, _, _ => False
  | .outgrown, _, _ => False

variable {P : Program}

theorem wp_rangeCounted {g : Operand} {ps : Array Tmp} {assign body : Code} {Q : Exit → Act → World → Prop} {a : Act} {w : World}
    {gf : Nat} {lb : Array Value} (hg : a.eval g = .func (.func gf) #[] lb) (eg : ∀ args w, (callFunc gf args).run P w = .ok (.enter gf args) w)
    (N bc : Nat) (hbc : bc < w.heap.size) (Given : Nat → Value → Value → World → Prop)
    (hGiven : ∀ i kv pv A l r o', Given i kv pv A → A.heap[l]? = some (.loop r) → Given i kv pv (A.putObj l o'))
    (hseq : ∀ (l : Nat) (J Jx : Nat → World → Prop) (W : World), W.heap.size = w.heap.size + 2 → Below w.heap.size w W → (∀ i A B, J i A → Below W.heap.size A B → J i B) →
      (∀ i kv pv W1, J i W1 → i < N → Given i kv pv W1 → YieldAt Fence.wide 0 P l #[kv, pv] W1 fun e W' =>
        (e = .returned (.bool true) ∧ J (i + 1) W' ∧ KeepX (fun k => k = bc ∨ k = w.heap.size ∨ k = w.heap.size + 1) W1 W') ∨ (e = .returned (.bool false) ∧ Jx (i + 1) W')) →
      J 0 W → Calls P gf (#[.func (.yield l) #[] #[]] ++ lb) W fun e W' => (∃ v, e = .returned v) ∧ (J N W' ∨ ∃ i, i ≤ N ∧ Jx i W'))
    (hps : ps.size = 2)
    (I : Nat → World → Prop) (Ix : Code → Nat → World → Prop) (hI : ∀ i A B, I i A → Below w.heap.size A B → I i B) (hIx : ∀ c i A B, Ix c i A → Below w.heap.size A B → Ix c i B) (h0 : I 0 w) (a₁ : Value → Value → Act)
    (hassign : ∀ (l : Nat) (kv pv : Value) (W : World) (K : Act → World → Prop), K (a₁ kv pv) W →
      assign.wpIn (Fence.wide.inRound l) 0 P (Exit.then K (fun _ _ _ => False)) { tmps := (ps.zip #[kv, pv]).foldl (fun t (p, v) => t.setIfInBounds p v) a.tmps, defers := [] } W)
    (hbody : ∀ (l : Nat) (i : Nat) (kv pv : Value) (W : World), I i W → i < N → Given i kv pv W → body.wpIn (Fence.wide.inRound l) 0 P (postX bc I Ix (i + 1) W) (a₁ kv pv) W)
    (hdone : ∀ (W : World), I N W → W.heap[w.heap.size]? = some (.deferred (some [])) → Q .normal { a with defers := { target := .collected w.heap.size, args := #[] } :: a.defers } W)
    (hstop : ∀ (c : Code) (i : Nat) (W : World), i ≤ N → Ix c i W → W.heap[w.heap.size]? = some (.deferred (some [])) → c.wp P Q { a with defers := { target := .collected w.heap.size, args := #[] } :: a.defers } W) :
    (Code.rangeFunc g ps assign body).wp P Q a w := by
  refine (wpIn_wide (n := 2)).1 ?_
  refine wpIn_rangeFunc ?_
  intro fn hfn
  rw [show Fence.wide.round = none from rfl]
  obtain ⟨rec, hrec⟩ : ∃ rec : LoopState → Option Code → Loop, rec = fun st pe => { state := st, pending := pe, fn, tmps := a.tmps, params := ps, assign, body, defers := w.heap.size } := ⟨_, rfl⟩
  obtain ⟨W1, hW1⟩ : ∃ W1, (w.alloc (.deferred (some []))).alloc (.loop (rec .ready none)) = W1 := ⟨_, rfl⟩
  have hsz1 : W1.heap.size = w.heap.size + 2 := by rw [← hW1]; simp
  have hL1 : W1.heap[w.heap.size + 1]? = some (.loop (rec .ready none)) := by
    rw [← hW1]; have := World.alloc_heap_new (w.alloc (.deferred (some []))) (.loop (rec .ready none)); rwa [World.size_alloc] at this
  have hK1 : W1.heap[w.heap.size]? = some (.deferred (some [])) := by
    rw [← hW1]; exact (Below.heap_alloc _ _ _ (by simp)).trans (World.alloc_heap_new w _)
  have hb1 : Below w.heap.size w W1 := by
    rw [← hW1]; exact ((Below.refl _ w).alloc (Nat.le_refl _) _).alloc (by simp) _
  have hI1 : I 0 W1 := hI _ _ _ h0 hb1
  have bput : ∀ (W : World) (o' : Obj), w.heap.size + 1 < W.heap.size → Below w.heap.size W (W.putObj (w.heap.size + 1) o') := fun W o' hlt =>
    (Below.refl w.heap.size W).grown (grownBy_putObj' W _ o') (by omega) (fun k e => by cases e; omega)
  have xput : ∀ (W : World) (o' : Obj), w.heap.size + 1 < W.heap.size → KeepX (fun k => k = bc ∨ k = w.heap.size ∨ k = w.heap.size + 1) W (W.putObj (w.heap.size + 1) o') := fun W o' hlt =>
    ⟨(grownBy_putObj' W _ o').size, fun k hk hn => World.putObj_heap_other (fun e => hn (.inr (.inr e)))⟩
  refine ⟨w.heap.size + 1, [{ target := .collected w.heap.size, args := #[] }], W1, { target := .fn (.func gf) lb, args := #[.func (.yield (w.heap.size + 1)) #[] #[]] }, W1, gf,
    #[.func (.yield (w.heap.size + 1)) #[] #[]] ++ lb, W1, ?_, ?_, ?_, ?_, fun _ => by omega, ?_⟩
  · rw [← hW1, hrec]; exact run_enterLoop_outer _ _ _ _ _
  · simp only [resolve, hg]
    simp [go_sem]
  · intro f' hf'; trivial
  · simp [invoke, go_sem, eg]
  · refine (callsIn_wide.2 (hseq (w.heap.size + 1)
      (fun i W => I i W ∧ W.heap[w.heap.size + 1]? = some (.loop (rec .ready none)) ∧ W.heap[w.heap.size]? = some (.deferred (some [])))
      (fun i W => ∃ c, Ix c i W ∧ W.heap[w.heap.size + 1]? = some (.loop (rec .done (some c))) ∧ W.heap[w.heap.size]? = some (.deferred (some [])))
      W1 hsz1 hb1
      (fun i A B hs hb => ⟨hI i A B hs.1 (hb.mono (by omega)), (hb.block _ (by omega)).trans hs.2.1, (hb.block _ (by omega)).trans hs.2.2⟩)
      ?_ ⟨hI1, hL1, hK1⟩)).mono ?_
    · rintro i kv pv W ⟨hi, hl, hk⟩ hlen hgv
      have hlt : w.heap.size + 1 < W.heap.size := (Array.getElem?_eq_some_iff.1 hl).1
      have hy := run_yield (P := P) (args := #[kv, pv]) hl (by rw [hrec]; simp [hps])
      rw [hrec] at hy
      refine ⟨fn, _, assign, body, hy, roundIn_of_wpIn hfn (hassign _ kv pv W _ ⟨_, run_beginRound hl (by rw [hrec]), ?_⟩)⟩
      have hl2 : (W.putObj (w.heap.size + 1) (.loop { rec .ready none with state := .busy })).heap[w.heap.size + 1]? = some (.loop { rec .ready none with state := .busy }) := World.putObj_heap_same hlt
      have hk2 : (W.putObj (w.heap.size + 1) (.loop { rec .ready none with state := .busy })).heap[w.heap.size]? = some (.deferred (some [])) := (World.putObj_heap_other (by omega)).trans hk
      have hs2 : (W.putObj (w.heap.size + 1) (.loop { rec .ready none with state := .busy })).heap.size = W.heap.size := by simp [World.putObj]
      refine wpIn_mono (hbody _ i kv pv _ (hI _ _ _ hi (bput W _ hlt)) hlen (hGiven _ _ _ _ _ _ _ hgv hl)) ?_
      have fin : ∀ (jump : Option Code) (W3 : World), KeepX (· = bc) (W.putObj (w.heap.size + 1) (.loop { rec .ready none with state := .busy })) W3 →
          (Instr.endRound (w.heap.size + 1) jump).run P W3 = .ok (.bool jump.isNone) (W3.putObj (w.heap.size + 1) (.loop (rec (if jump.isNone then .ready else .done) jump))) ∧
          w.heap.size + 1 < W3.heap.size ∧
          (W3.putObj (w.heap.size + 1) (.loop (rec (if jump.isNone then .ready else .done) jump))).heap[w.heap.size + 1]? = some (.loop (rec (if jump.isNone then .ready else .done) jump)) ∧
          (W3.putObj (w.heap.size + 1) (.loop (rec (if jump.isNone then .ready else .done) jump))).heap[w.heap.size]? = some (.deferred (some [])) := fun jump W3 hk3 => by
        have hl3 : W3.heap[w.heap.size + 1]? = _ := (hk3.same _ (by omega) (by omega)).trans hl2
        have hd3 : W3.heap[w.heap.size]? = _ := (hk3.same _ (by omega) (by omega)).trans hk2
        have := run_endRound (P := P) jump hl3
        rw [hrec] at this ⊢
        exact ⟨this, (Array.getElem?_eq_some_iff.1 hl3).1, World.putObj_heap_same (Array.getElem?_eq_some_iff.1 hl3).1, (World.putObj_heap_other (by omega)).trans hd3⟩
      rintro e a3 W3 hp
      cases e with
      | normal =>
        obtain ⟨hk3, hi3⟩ := hp
        obtain ⟨hr, hl3, hl4, hk4⟩ := fin none W3 hk3
        refine ⟨_, _, hr, .inl ⟨rfl, ⟨hI _ _ _ hi3 (bput W3 _ hl3), hl4, hk4⟩, ?_⟩⟩
        exact ((xput W _ hlt).trans (hk3.mono (fun k h => .inl h))).trans (xput W3 _ hl3)
      | ret =>
        obtain ⟨hk3, hi3⟩ := hp
        obtain ⟨hr, hl3, hl4, hk4⟩ := fin (some .ret) W3 hk3
        exact ⟨_, _, hr, .inr ⟨rfl, .ret, hIx _ _ _ _ hi3 (bput W3 _ hl3), hl4, hk4⟩⟩
      | exit id =>
        obtain ⟨hk3, hi3⟩ := hp
        obtain ⟨hr, hl3, hl4, hk4⟩ := fin (some (.exit id)) W3 hk3
        exact ⟨_, _, hr, .inr ⟨rfl, .exit id, hIx _ _ _ _ hi3 (bput W3 _ hl3), hl4, hk4⟩⟩
      | goto t =>
        obtain ⟨hk3, hi3⟩ := hp
        obtain ⟨hr, hl3, hl4, hk4⟩ := fin (some (.goto t)) W3 hk3
        exact ⟨_, _, hr, .inr ⟨rfl, .goto t, hIx _ _ _ _ hi3 (bput W3 _ hl3), hl4, hk4⟩⟩
      | panic ch => exact hp.elim
      | outgrown => exact hp.elim
    · rintro e W2 ⟨⟨v, rfl⟩, (⟨hi, hl, hk⟩ | ⟨i, hiN, c, hi, hl, hk⟩)⟩
      · exact ⟨none, _, by have := run_endLoop (P := P) hl (by rw [hrec]; simp); rw [hrec] at this; exact this, hdone _ (hI _ _ _ hi (bput W2 _ (Array.getElem?_eq_some_iff.1 hl).1)) ((World.putObj_heap_other (by omega)).trans hk)⟩
      · exact ⟨some c, _, by have := run_endLoop (P := P) hl (by rw [hrec]; simp); rw [hrec] at this; exact this, wpIn_wide.2 (hstop c i _ hiN (hIx c _ _ _ hi (bput W2 _ (Array.getElem?_eq_some_iff.1 hl).1)) ((World.putObj_heap_other (by omega)).trans hk))⟩
end Go.CountedRange
