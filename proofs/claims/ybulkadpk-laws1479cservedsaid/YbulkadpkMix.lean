/-
  A REGION THAT DRAWS ITS ORDER, ITS QUIET OPERATIONS (copies, addresses, loads, a struct built) TAKEN FIRST, IN AN ORDER OF THE PROVER's OWN CHOICE, the rest a forced chain of steps that may write; the class S of worlds (where the loads yield their values) must hold behind every step of the chain BUT THE LAST: so the last may write a cell that a load has read.
-/
import Derived.StillTail
import Derived.Deep.Quiet
import Derived.OrdersHeld
import Derived.Below
namespace Go.MixedTail
open Go Go.RowKit

section
variable {P : Program} {ops : Array Oper} {md : Region.Mode} {S : World → Prop} {Q : Exit → Act → World → Prop} {L : Nat}

/-- Whatever order is picked from here on; S holds behind every operation but L. -/
def anyE (P : Program) (md : Region.Mode) (ops : Array Oper) (Q : Exit → Act → World → Prop) (S : World → Prop) (L : Nat) : Nat → Array Bool → Act → World → Prop
  | 0, listed, a, w => Region.ready md ops listed = [] ∧ Q .normal a w
  | fuel + 1, listed, a, w =>
    (Region.ready md ops listed = [] → Q .normal a w) ∧
    ∀ i ∈ Region.ready md ops listed, wpOp P ops Q i (fun a' w' => (i ≠ L → S w') ∧ anyE P md ops Q S L fuel (listed.setIfInBounds i true) a' w') a w

theorem any_of_E : ∀ (fuel : Nat) (listed : Array Bool) (a : Act) (w : World), anyE P md ops Q S L fuel listed a w → wpAny P md ops Q fuel listed a w
  | 0, _, _, _, h => h
  | fuel + 1, _, _, _, h => ⟨h.1, fun i hi => wpOp_mono (fun a' w' h' => any_of_E fuel _ a' w' h'.2) (h.2 i hi)⟩

/-- What may come up now, for which L waits, and which yields its value in every world of the class, may be taken first. -/
theorem anyE_first {i : Nat} {oi : Oper} {v : Value} (hi : ops[i]? = some oi) (hsel : ∀ (j : Nat) (o : Oper) cs b, ops[j]? = some o → o.op ≠ .select cs b)
    (hQ : ∀ c a w, Q (.panic c) (a.put oi.dst v) w → Q (.panic c) a w) (hL : ∀ oL, ops[L]? = some oL → ∃ e ∈ oL.after, Region.binds md e = true ∧ e.on = i) :
    ∀ (fuel : Nat) (listed : Array Bool) (a : Act) (w : World),
      (∀ j oj, ops[j]? = some oj → j ≠ i → listed.getD j true = false → (∀ e ∈ oj.after, Region.binds md e = true → e.on ≠ i) → oi.apart ops oj = true) →
      i ∈ Region.ready md ops listed → YieldsIf P ops S oi v a → S w →
      anyE P md ops Q S L fuel (listed.setIfInBounds i true) (a.put oi.dst v) w → anyE P md ops Q S L (fuel + 1) listed a w := by
  intro fuel
  induction fuel with
  | zero =>
    intro listed a w _ hr hy hS H
    refine ⟨fun h => (by rw [h] at hr; cases hr), fun j hj => ?_⟩
    by_cases hji : j = i
    · subst hji; exact hy.wpOp hi hS ⟨fun _ => hS, H⟩
    · have := ready_mono hj hji
      rw [H.1] at this
      cases this
  | succ fuel ih =>
    intro listed a w hfree hr hy hS H
    refine ⟨fun h => (by rw [h] at hr; cases hr), fun j hj => ?_⟩
    by_cases hji : j = i
    · subst hji; exact hy.wpOp hi hS ⟨fun _ => hS, H⟩
    · have h1 := H.2 j (ready_mono hj hji)
      obtain ⟨hjun, oj, hoj, hall⟩ := mem_ready.1 hj
      have hnot : ∀ e ∈ oj.after, Region.binds md e = true → e.on ≠ i := fun e he hb heq => by
        have h1 := hall e he hb
        have h0 := (mem_ready.1 hr).1
        rw [heq] at h1
        rcases Nat.lt_or_ge i listed.size with h' | h'
        · simp [h'] at h0 h1; rw [h0] at h1; cases h1
        · simp [Array.getElem?_eq_none h'] at h1
      have hjL : j ≠ L := fun e => by
        subst e
        obtain ⟨e, he, hb, hon⟩ := hL oj hoj
        exact hnot e he hb hon
      have h2 := wpOp_putIf hoj (hfree j oj hoj hji hjun hnot) (fun cs b => hsel i oi cs b hi) (fun cs b => hsel j oj cs b hoj) hQ hy h1
      have hfree' : ∀ k ok, ops[k]? = some ok → k ≠ i → (listed.setIfInBounds j true).getD k true = false →
          (∀ e ∈ ok.after, Region.binds md e = true → e.on ≠ i) → oi.apart ops ok = true := fun k ok hk hki hun hno => by
        refine hfree k ok hk hki ?_ hno
        by_cases hjk : j = k
        · subst hjk; exact hjun
        · rw [getD_set_ne true hjk] at hun; exact hun
      refine wpOp_mono (fun a' w' h3 => ⟨h3.2.1, ih (listed.setIfInBounds j true) a' w' hfree' (ready_mono hr (Ne.symm hji)) h3.1 (h3.2.1 hjL) ?_⟩) h2
      rw [Array.setIfInBounds_comm _ _ hji]
      exact h3.2.2

/-- The chain: each step with S behind it, but the last. -/
def wpT (P : Program) (ops : Array Oper) (Q : Exit → Act → World → Prop) (S : World → Prop) : List Nat → Act → World → Prop
  | [], a, w => Q .normal a w
  | [i], a, w => wpOp P ops Q i (fun a' w' => Q .normal a' w') a w
  | i :: j :: rest, a, w => wpOp P ops Q i (fun a' w' => S w' ∧ wpT P ops Q S (j :: rest) a' w') a w

def forcedB (md : Region.Mode) (ops : Array Oper) (L : Nat) : List Nat → Array Bool → Bool
  | [], listed => (Region.ready md ops listed).isEmpty
  | i :: rest, listed => decide (Region.ready md ops listed = [i]) && (rest.isEmpty == (i == L)) && forcedB md ops L rest (listed.setIfInBounds i true)

theorem anyE_of_T : ∀ (tl : List Nat) (listed : Array Bool) (a : Act) (w : World), forcedB md ops L tl listed = true → wpT P ops Q S tl a w → anyE P md ops Q S L tl.length listed a w
  | [], listed, a, w, hB, h => ⟨by simpa [forcedB] using hB, h⟩
  | [i], listed, a, w, hB, h => by
    simp only [forcedB, Bool.and_eq_true, decide_eq_true_eq, List.isEmpty_nil] at hB
    obtain ⟨⟨h1, h2⟩, h3⟩ := hB
    have hiL : i = L := by simpa using h2
    refine ⟨fun h0 => (by rw [h1] at h0; cases h0), fun k hk => ?_⟩
    rw [h1] at hk
    obtain rfl : k = i := by simpa using hk
    exact wpOp_mono (fun a' w' hq => ⟨fun h => absurd hiL h, by simpa using h3, hq⟩) h
  | i :: j :: rest, listed, a, w, hB, h => by
    rw [forcedB, Bool.and_eq_true, Bool.and_eq_true, decide_eq_true_eq] at hB
    obtain ⟨⟨h1, h2⟩, h3⟩ := hB
    refine ⟨fun h0 => (by rw [h1] at h0; cases h0), fun k hk => ?_⟩
    rw [h1] at hk
    obtain rfl : k = i := by simpa using hk
    exact wpOp_mono (fun a' w' hq => ⟨fun _ => hq.1, anyE_of_T (j :: rest) _ a' w' h3 hq.2⟩) h

/-- An operation that yields a value or halts: no call, nothing left out. -/
def calmB (o : Oper) : Bool := match o.op with
  | .move _ => true
  | .nilCheck _ => true
  | .fieldAddr _ _ _ => true
  | .load _ _ => true
  | .build _ _ => true
  | _ => false

theorem run_b {α : Type} {s : Sem α} {k : α → Sem Next} {w : World} {n : Next} {w' : World} (hk : ∀ x w1 n w', (k x).run P w1 = .ok n w' → ∃ u, n = .value u) (h : (s >>= k).run P w = .ok n w') : ∃ u, n = .value u := by
  rw [Sem.run_bind] at h
  cases hs : s.run P w with
  | halt x w1 => rw [hs] at h; simp [Result.andThen] at h
  | ok x w1 => rw [hs] at h; exact hk _ _ _ _ h
theorem run_v {s : Sem Value} {w : World} {n : Next} {w' : World} (h : Sem.run P (do pure (Next.value (← s))) w = .ok n w') : ∃ u, n = .value u := by
  rw [Sem.run_bind] at h
  cases hs : s.run P w with
  | halt x w1 => rw [hs] at h; simp [Result.andThen] at h
  | ok x w1 =>
    rw [hs] at h
    simp only [Result.andThen, Sem.run_pure, Result.ok.injEq] at h
    exact ⟨x, h.1.symm⟩
theorem calm_run {o : Oper} {a : Act} (hc : calmB o = true) {w w' : World} {n : Next} (h : (execOp a.eval o).run P w = .ok n w') : ∃ u, n = .value u := by
  unfold calmB at hc
  unfold execOp at h
  cases ho : o.op with
  | move x =>
    simp only [ho, Sem.run_pure, Result.ok.injEq] at h
    exact ⟨_, h.1.symm⟩
  | nilCheck x =>
    simp only [ho] at h
    split at h
    · simp [runtimePanic] at h
    · simp [runtimePanic] at h
    · simp [runtimePanic] at h
    · split at h
      · simp [runtimePanic] at h
      · refine run_b (fun _ _ _ _ h1 => ?_) h
        refine run_b (fun _ _ _ _ h2 => ?_) h1
        split at h2
        · refine run_b (fun _ _ _ _ h3 => ?_) h2
          simp only [Sem.run_pure, Result.ok.injEq] at h3
          exact ⟨_, h3.1.symm⟩
        · simp only [Sem.run_pure, Result.ok.injEq] at h2
          exact ⟨_, h2.1.symm⟩
      · simp only [Sem.run_pure, Result.ok.injEq] at h
        exact ⟨_, h.1.symm⟩
    · simp only [Sem.run_pure, Result.ok.injEq] at h
      exact ⟨_, h.1.symm⟩
  | fieldAddr s x f => simp only [ho] at h; exact run_v h
  | load t x => simp only [ho] at h; exact run_v h
  | build t ps => simp only [ho] at h; exact run_v h
  | _ => simp [ho] at hc

theorem calm_yields {o : Oper} {v : Value} {a : Act} {C : World → Prop} (hc : calmB o = true) {w : World} (h : o.quietAt P a C w v) : (execOp a.eval o).run P w = .ok (.value v) w := by
  unfold Oper.quietAt at h
  generalize hr : (execOp a.eval o).run P w = r at h
  cases r with
  | halt x w' => exact h.elim
  | ok n w' =>
    obtain ⟨u, rfl⟩ := calm_run hc hr
    obtain ⟨rfl, rfl⟩ := h
    rfl
/-- The order is sound: each of hd may come up when its turn comes, is calm, is apart from all that does not wait for it, and L waits for it; behind them the chain tl is forced. -/
def headB (md : Region.Mode) (ops : Array Oper) (L : Nat) (tl : List Nat) : List Nat → Array Bool → Bool
  | [], listed => forcedB md ops L tl listed
  | i :: hd, listed => match ops[i]? with
    | none => false
    | some oi => (Region.ready md ops listed).contains i && Region.free md ops listed i && calmB oi && (match ops[L]? with | some oL => oL.after.any (fun e => Region.binds md e && e.on == i) | none => true) && headB md ops L tl hd (listed.setIfInBounds i true)

theorem anyE_mixed {Lq : Act → Prop} (hsel : Region.noSelect ops = true) (tl : List Nat) (w : World) (hS : S w) (hT : ∀ a, Lq a → wpT P ops Q S tl a w)
    (hQ : ∀ c a w (d : Option Tmp) (v : Value), Q (.panic c) (a.put d v) w → Q (.panic c) a w) :
    ∀ (hd : List Nat) (listed : Array Bool) (a : Act), headB md ops L tl hd listed = true → wpQuiet P ops S Lq (hd.filterMap fun i => ops[i]?) a → anyE P md ops Q S L (hd.length + tl.length) listed a w
  | [], listed, a, hB, h => by
    rw [List.length_nil, Nat.zero_add]
    exact anyE_of_T tl listed a w hB (hT a h)
  | i :: hd, listed, a, hB, h => by
    simp only [headB] at hB
    cases ho : ops[i]? with
    | none => rw [ho] at hB; cases hB
    | some oi =>
      rw [ho] at hB
      simp only [Bool.and_eq_true] at hB
      obtain ⟨⟨⟨⟨h1, h2⟩, h3⟩, h4⟩, h5⟩ := hB
      have hq : qOp P ops S i (wpQuiet P ops S Lq (hd.filterMap fun i => ops[i]?)) a := by
        unfold qOp
        simp only [ho]
        simp only [List.filterMap_cons, ho] at h
        exact h
      obtain ⟨v, hy, hK⟩ := yieldsIn_of_qOp ho hq
      have hy' : YieldsIf P ops S oi v a := hy.imp (fun ⟨k1, k2⟩ => ⟨k1, fun w' hw' => calm_yields h3 (k2 w' hw')⟩) id
      have := anyE_mixed hsel tl w hS hT hQ hd _ _ h5 hK
      rw [List.length_cons, show hd.length + 1 + tl.length = hd.length + tl.length + 1 by omega]
      refine anyE_first ho (Region.noSelect_spec hsel) (fun c a w => hQ c a w _ _) (fun oL hoL => ?_) _ listed a w (Region.free_spec ho h2) (by simpa using h1) hy' hS this
      rw [hoL] at h4
      obtain ⟨k, hk, h6⟩ := Array.any_eq_true.1 h4
      simp only [Bool.and_eq_true, beq_iff_eq] at h6
      exact ⟨_, Array.getElem_mem hk, h6.1, h6.2⟩

theorem wp_region_mixed {id : Nat} {a : Act} {w : World} {l : List Oper} (S : World → Prop) (hd tl : List Nat) (L : Nat) (hm : P.follows .mixedOrders = true) (hsel : Region.noSelect l.toArray = true) (hlen : hd.length + tl.length = l.length)
    (hB : headB .any l.toArray L tl hd (Array.replicate l.toArray.size false) = true) (hS : S { w with drawn := w.drawn + 1 }) (hQ : ∀ c a w (d : Option Tmp) (v : Value), Q (.panic c) (a.put d v) w → Q (.panic c) a w)
    (h : wpQuiet P l.toArray S (fun a' => wpT P l.toArray Q S tl a' { w with drawn := w.drawn + 1 }) (hd.filterMap fun i => l.toArray[i]?) a) : (Code.region id l.toArray true).wp P Q a w := by
  refine wp_region_any hm (any_of_E (S := S) (L := L) _ _ _ _ ?_)
  have := anyE_mixed (md := .any) (L := L) hsel tl _ hS (fun a h => h) hQ hd _ a hB h
  rw [hlen] at this
  simpa using this

/-- Q, a panic forbidden. -/
def noPanic (Q : Exit → Act → World → Prop) : Exit → Act → World → Prop
  | .panic _, _, _ => False
  | .normal, a, w => Q .normal a w
  | .ret, a, w => Q .ret a w
  | .exit i, a, w => Q (.exit i) a w
  | .goto i, a, w => Q (.goto i) a w
  | .outgrown, a, w => Q .outgrown a w
theorem wp_region_mixed_calm {id : Nat} {a : Act} {w : World} {l : List Oper} (S : World → Prop) (hd tl : List Nat) (L : Nat) (hm : P.follows .mixedOrders = true) (hsel : Region.noSelect l.toArray = true) (hlen : hd.length + tl.length = l.length)
    (hB : headB .any l.toArray L tl hd (Array.replicate l.toArray.size false) = true) (hS : S { w with drawn := w.drawn + 1 })
    (h : wpQuiet P l.toArray S (fun a' => wpT P l.toArray (noPanic Q) S tl a' { w with drawn := w.drawn + 1 }) (hd.filterMap fun i => l.toArray[i]?) a) : (Code.region id l.toArray true).wp P Q a w :=
  wp_mono (wp_region_mixed (Q := noPanic Q) S hd tl L hm hsel hlen hB hS (fun _ _ _ _ _ h => h.elim) h) (fun e a w h => by cases e <;> first | exact h | exact h.elim)
/-- One step of the chain, as a plain list of one operation. -/
theorem wpT_step {i j : Nat} {rest : List Nat} {o : Oper} {a : Act} {w : World} (ho : ops[i]? = some o) (h : wpList P ops (Exit.then (fun a' w' => S w' ∧ wpT P ops Q S (j :: rest) a' w') Q) [o] a w) : wpT P ops Q S (i :: j :: rest) a w := by
  unfold wpT wpOp
  simp only [ho]
  unfold wpList at h
  split
  · rename_i hw
    simp only [hw, if_true] at h
    rcases h with h | ⟨h1, h2⟩
    · refine .inl ?_
      unfold Oper.wp at *
      generalize (execOp a.eval o).run P w = r at *
      cases r with
      | ok n w' =>
        cases n <;> simp only [Oper.upon] at h ⊢
        case enter f args => exact h.mono fun e w'' he => by cases e <;> exact he
        all_goals exact h
      | halt x w' => cases x <;> simp only [Oper.upon] at h ⊢ <;> exact h
    · exact .inr ⟨h1, h2⟩
  · rename_i hw
    simp only [hw] at h
    exact h
theorem wpT_last {i : Nat} {o : Oper} {a : Act} {w : World} (ho : ops[i]? = some o) (h : wpList P ops (Exit.then (fun a' w' => Q .normal a' w') Q) [o] a w) : wpT P ops Q S [i] a w := by
  unfold wpT wpOp
  simp only [ho]
  unfold wpList at h
  split
  · rename_i hw
    simp only [hw, if_true] at h
    rcases h with h | ⟨h1, h2⟩
    · refine .inl ?_
      unfold Oper.wp at *
      generalize (execOp a.eval o).run P w = r at *
      cases r with
      | ok n w' =>
        cases n <;> simp only [Oper.upon] at h ⊢
        case enter f args => exact h.mono fun e w'' he => by cases e <;> exact he
        all_goals exact h
      | halt x w' => cases x <;> simp only [Oper.upon] at h ⊢ <;> exact h
    · exact .inr ⟨h1, h2⟩
  · rename_i hw
    simp only [hw] at h
    exact h
end
end Go.MixedTail
