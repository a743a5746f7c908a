import Derived.Test.YbulkadpkQT
import Derived.OrdersIn
import Derived.TacticsIn
import Derived.RangeFuncCalls
namespace Go.QuietRound
open Go Go.RowKit Go.QuietTail
section
variable {P : Program} {ops : Array Oper} {md : Region.Mode} {C : World → Prop}

def noDeferB (ops : Array Oper) : Bool := ops.all fun o => match o.op with | .defer _ => false | _ => true
theorem noDefer_spec (h : noDeferB ops = true) (j : Nat) (o : Oper) (c : Call) (ho : ops[j]? = some o) : o.op ≠ .defer c := by
  intro heq
  have := Array.all_eq_true_iff_forall_mem.1 h o (Array.mem_of_getElem? ho)
  simp [heq] at this
theorem opIn_of_quiet {i l : Nat} {a : Act} {K : Act → Prop} {K' : Act → World → Prop} {Q' : Exit → Act → World → Prop} {w : World} (hnd : ∀ (j : Nat) (o : Oper) c, ops[j]? = some o → o.op ≠ .defer c) (hC : C w) (h : ∀ a w', C w' → K a → K' a w') (hh : qOp P ops C i K a) : wpOpIn (Fence.wide.inRound l) 0 P ops Q' i K' a w := by
  unfold qOp at hh
  unfold wpOpIn
  split
  · rename_i ho; simp only [ho] at hh; exact h _ _ hC hh
  · rename_i o ho
    simp only [ho] at hh
    split
    · rename_i hw
      simp only [hw, if_true] at hh
      obtain ⟨v, h1, h2⟩ := hh
      have h3 := h1 w hC
      refine ⟨fun _ _ => trivial, ?_⟩
      rw [show (Fence.wide.inRound l).round = some l from rfl, Oper.semAt_some l _ o (fun c => hnd i o c ho)]
      unfold Oper.quietAt at h3
      generalize (execOp a.eval o).run P w = r at h3 ⊢
      cases r with
      | halt x w' => exact h3.elim
      | ok n w' =>
        cases n with
        | value u => obtain ⟨rfl, rfl⟩ := h3; exact h _ _ hC h2
        | skip => obtain ⟨rfl, rfl⟩ := h3; exact h _ _ hC h2
        | enter f args =>
          obtain ⟨rfl, h4⟩ := h3
          refine ⟨fun hd => (by cases hd), CallsIn.inRound l (callsIn_wide.2 (h4.mono ?_))⟩
          rintro e w'' ⟨rfl, hw''⟩
          exact h _ _ hw'' h2
        | _ => exact h3.elim
    · rename_i hw; simp only [hw] at hh; exact ⟨fun _ _ => trivial, h _ _ hC hh⟩
theorem anyIn_of_quiet {l : Nat} {Q : Act → Prop} {Q' : Exit → Act → World → Prop} (hnd : ∀ (j : Nat) (o : Oper) c, ops[j]? = some o → o.op ≠ .defer c) (hQ : ∀ a w, C w → Q a → Q' .normal a w) : ∀ (fuel : Nat) (listed : Array Bool) (a : Act) (w : World), C w →
    wpAnyQ P md ops C Q fuel listed a → wpAnyIn (Fence.wide.inRound l) 0 P md ops Q' fuel listed a w
  | 0, _, _, _, hw, h => ⟨h.1, hQ _ _ hw h.2⟩
  | fuel + 1, _, _, _, hw, h => ⟨fun h0 => hQ _ _ hw (h.1 h0), fun i hi => opIn_of_quiet hnd hw (fun a' w' hw' => anyIn_of_quiet hnd hQ fuel _ a' w' hw') (h.2 i hi)⟩
theorem wpIn_region_quiet_round {id l : Nat} {Q : Exit → Act → World → Prop} {a : Act} {w : World} {L : List Oper} (hm : P.follows .mixedOrders = true) (hB : Region.lexB .any L.toArray = true) (hD : noDeferB L.toArray = true) (hC : C { w with drawn := w.drawn + 1 })
    (h : wpQuiet P L.toArray C (fun a' => ∀ w', C w' → Q .normal a' w') L a) : (Code.region id L.toArray true).wpIn (Fence.wide.inRound l) 0 P Q a w := by
  simp only [Region.lexB, Bool.and_eq_true] at hB
  refine wpIn_region_any hm (anyIn_of_quiet (C := C) (Q := fun a' => ∀ w', C w' → Q .normal a' w') (fun j o c ho => noDefer_spec hD j o c ho) (fun _ w' hw' h => h w' hw') _ _ _ _ hC ?_)
  have := wpAnyQ_lex (C := C) (md := .any) hB.1 L 0 (Array.replicate L.toArray.size false) a (by simp) (by simpa using hB.2) h
  simpa using this
theorem wpIn_region_later_round {id l : Nat} {Q : Exit → Act → World → Prop} {a : Act} {w : World} {L : List Oper} (hm : P.follows .mixedOrders = true) (hB : Region.lexB .any L.toArray = true) (hD : noDeferB L.toArray = true)
    (h : wpQuiet P L.toArray (fun w' => ∃ p : Later w, w' = p.w) (fun a' => ∀ w', (∃ p : Later w, w' = p.w) → Q .normal a' w') L a) : (Code.region id L.toArray true).wpIn (Fence.wide.inRound l) 0 P Q a w :=
  wpIn_region_quiet_round (C := fun w' => ∃ p : Later w, w' = p.w) hm hB hD ⟨⟨w.drew, (Below.refl _ _).drew⟩, rfl⟩ h
end
end Go.QuietRound
