import Derived.Test.YbulkadlcEqC
import Derived.Test.YbulkadlcSetF
import Derived.Test.YbulkadlcNum
import Derived.Test.YbulkadlcNearP
import Derived.Great.BuildSlice
namespace Go.Proofs.Ybulkadlc
open Go.RowKit Go.QuietTail
set_option linter.unusedVariables false
set_option linter.unusedSimpArgs false

section
variable {α : Type} (f : α → List Value)
def flatG : List α → List Value
  | [] => []
  | x :: l => f x ++ flatG l
theorem flatG_len (m : Nat) : ∀ {l : List α}, (∀ x ∈ l, (f x).length = m) → (flatG f l).length = l.length * m
  | [], _ => by simp [flatG]
  | x :: l, h => by rw [flatG, List.length_append, h x (by simp), flatG_len m (fun y hy => h y (by simp [hy])), List.length_cons, Nat.succ_mul]; omega
theorem flatG_append : ∀ (l k : List α), flatG f (l ++ k) = flatG f l ++ flatG f k
  | [], k => rfl
  | x :: l, k => by rw [List.cons_append, flatG, flatG_append l k, flatG, List.append_assoc]
theorem flatG_at (m : Nat) : ∀ {l : List α}, (∀ x ∈ l, (f x).length = m) → ∀ {j : Nat} {x : α}, l[j]? = some x → ∀ {t : Nat}, t < m → (flatG f l)[j * m + t]? = (f x)[t]?
  | [], _, j, x, hj, t, ht => by simp at hj
  | y :: l, h, 0, x, hj, t, ht => by
    obtain rfl : y = x := by simpa using hj
    rw [flatG, Nat.zero_mul, Nat.zero_add, List.getElem?_append_left (by rw [h y (by simp)]; exact ht)]
  | y :: l, h, j + 1, x, hj, t, ht => by
    have hj' : l[j]? = some x := by simpa using hj
    have e : (j + 1) * m + t - m = j * m + t := by rw [Nat.succ_mul]; omega
    rw [flatG, List.getElem?_append_right (by rw [h y (by simp), Nat.succ_mul]; omega), h y (by simp), e]
    exact flatG_at m (fun z hz => h z (by simp [hz])) hj' ht
theorem flatG_take (m : Nat) : ∀ {l : List α}, (∀ x ∈ l, (f x).length = m) → ∀ (k : Nat), (flatG f l).take (k * m) = flatG f (l.take k)
  | [], _, k => by simp [flatG]
  | x :: l, h, 0 => by simp [flatG]
  | x :: l, h, k + 1 => by
    have e : (k + 1) * m = (f x).length + k * m := by rw [h x (by simp), Nat.succ_mul]; omega
    rw [flatG, List.take_succ_cons, flatG, e, List.take_length_add_append, flatG_take m (fun z hz => h z (by simp [hz])) k]
theorem flatG_drop (m : Nat) : ∀ {l : List α}, (∀ x ∈ l, (f x).length = m) → ∀ (k : Nat), (flatG f l).drop (k * m) = flatG f (l.drop k)
  | [], _, k => by simp [flatG]
  | x :: l, h, 0 => by simp
  | x :: l, h, k + 1 => by
    have e : (k + 1) * m = (f x).length + k * m := by rw [h x (by simp), Nat.succ_mul]; omega
    rw [flatG, List.drop_succ_cons, e, List.drop_length_add_append, flatG_drop m (fun z hz => h z (by simp [hz])) k]
theorem flatG_one (h1 : ∀ x, ∀ v ∈ f x, v.oneCell' = true) : ∀ (l : List α), ∀ v ∈ flatG f l, v.oneCell' = true
  | [], v, hv => by simp [flatG] at hv
  | x :: l, v, hv => by
    rw [flatG, List.mem_append] at hv
    rcases hv with hv | hv
    · exact h1 x v hv
    · exact flatG_one h1 l v hv
end

/-- A near: its halves, its ID. -/
def cellsN (h l : Int) (d : List Int) : List Value := .int .u64 h :: .int .u64 l :: cellsId d
def gh (me : List Int) (after : Bool) (d : List Int) : Int := if after then gapHi me d else gapHi d me
def gl (me : List Int) (after : Bool) (d : List Int) : Int := if after then gapLo me d else gapLo d me
def ck (me : List Int) (after : Bool) (d : List Int) : List Value := cellsN (gh me after d) (gl me after d) d
theorem kd_eq (me : List Int) (after : Bool) (d : List Int) : kd me after d = gh me after d * 18446744073709551616 + gl me after d := by
  unfold kd gh gl keyOf2
  cases after <;> simp
theorem gh_bd (me : List Int) (after : Bool) (d : List Int) : 0 ≤ gh me after d ∧ gh me after d < 18446744073709551616 := by
  unfold gh; cases after
  · exact gapHi_bd d me
  · exact gapHi_bd me d
theorem gl_bd (me : List Int) (after : Bool) (d : List Int) : 0 ≤ gl me after d ∧ gl me after d < 18446744073709551616 := by
  unfold gl; cases after
  · exact gapLo_bd d me
  · exact gapLo_bd me d
theorem kd_lt (me : List Int) (after : Bool) (a b : List Int) : kd me after a < kd me after b ↔ (gh me after a < gh me after b ∨ (gh me after a = gh me after b ∧ gl me after a < gl me after b)) := by
  have h1 := gh_bd me after a; have h2 := gl_bd me after a; have h3 := gh_bd me after b; have h4 := gl_bd me after b
  rw [kd_eq, kd_eq]
  omega
theorem cellsN_len (h l : Int) {d : List Int} (hd : IdOk d) : (cellsN h l d).length = 18 := by simp [cellsN, cellsId, hd.1]
theorem cellsN_one (h l : Int) (d : List Int) : ∀ v ∈ cellsN h l d, v.oneCell' = true := by
  intro v hv
  simp only [cellsN, List.mem_cons] at hv
  rcases hv with rfl | rfl | hv
  · rfl
  · rfl
  · exact cellsId_one _ v hv
theorem info85 : (Yba.prog.info? 85).map (·.size) = some 18 := by kernel_rfl
def zeroN : Value := .agg (cellsN 0 0 zero16).toArray
theorem built85 (d : List Int) (hd : d.length = 16) : Yba.prog.built 85 [(2, .agg (cellsId d).toArray)] = some (cellsN 0 0 d).toArray := by
  obtain ⟨d0, d1, d2, d3, d4, d5, d6, d7, d8, d9, d10, d11, d12, d13, d14, d15, rfl⟩ := list16 d hd
  kernel_rfl

/-! before -/
def NB (w : World) (g : Nat) (h l : Int) (d : List Int) : Prop := w.heap[g]? = some (.cells (cellsN h l d).toArray 85 (0, 0))
theorem NB.later {w w' : World} {g : Nat} {h l : Int} {d : List Int} (hh : NB w g h l d) (hb : Below w.heap.size w w') : NB w' g h l d := by
  unfold NB at *
  rw [hb.block g (Array.getElem?_eq_some_iff.1 hh).1]
  exact hh
theorem NB.c0 {w : World} {g : Nat} {h l : Int} {d : List Int} (hh : NB w g h l d) : w.cell? ⟨g, 0, none⟩ = some (.int .u64 h) := by rw [cell_of_row w g 0 _ 85 (0, 0) hh]; rfl
theorem NB.c1 {w : World} {g : Nat} {h l : Int} {d : List Int} (hh : NB w g h l d) : w.cell? ⟨g, 1, none⟩ = some (.int .u64 l) := by rw [cell_of_row w g 1 _ 85 (0, 0) hh]; rfl
theorem NB.range {w : World} {g : Nat} {h l : Int} {d : List Int} (hh : NB w g h l d) : w.rangeAt g 0 (cellsN h l d) := fun j v hv => by
  rw [cell_of_row w g (0 + j) _ 85 (0, 0) hh]
  simpa using hv
theorem NB.id {w : World} {g : Nat} {h l : Int} {d : List Int} (hh : NB w g h l d) : w.rangeAt g 2 (cellsId d) := fun j v hv => by
  rw [cell_of_row w g (2 + j) _ 85 (0, 0) hh]
  simp only [cellsN]
  rw [Nat.add_comm]
  simpa using hv
set_option maxHeartbeats 1000000 in
theorem before_any (h1 l1 h2 l2 : Int) (d1 d2 : List Int) (w : World) :
    Calls Yba.prog 45 #[.agg (cellsN h1 l1 d1).toArray, .agg (cellsN h2 l2 d2).toArray] w fun e w' => e = .returned (.bool (decide (h1 < h2 ∨ (h1 = h2 ∧ l1 < l2)))) ∧ Below w.heap.size w w' := by
  have B1 : NB ((w.alloc (.cells (cellsN h1 l1 d1).toArray 85)).alloc (.cells (cellsN h2 l2 d2).toArray 85)) w.heap.size h1 l1 d1 := NB.later (w := w.alloc (.cells (cellsN h1 l1 d1).toArray 85)) (heap_alloc_new w _) ((Below.refl _ _).alloc (Nat.le_refl _) _)
  have B2 : NB ((w.alloc (.cells (cellsN h1 l1 d1).toArray 85)).alloc (.cells (cellsN h2 l2 d2).toArray 85)) (w.heap.size + 1) h2 l2 d2 := by
    have := heap_alloc_new (w.alloc (.cells (cellsN h1 l1 d1).toArray 85)) (.cells (cellsN h2 l2 d2).toArray 85)
    rw [World.size_alloc] at this
    exact this
  have hB : Below w.heap.size w ((w.alloc (.cells (cellsN h1 l1 d1).toArray 85)).alloc (.cells (cellsN h2 l2 d2).toArray 85)) := ((Below.refl _ w).alloc (Nat.le_refl _) _).alloc (by simp) _
  have a0 := B1.c0
  have a1 := B1.c1
  have b0 := B2.c0
  have b1 := B2.c1
  clear B1 B2
  by_cases c1 : h1 < h2
  · have e : decide (h1 < h2 ∨ (h1 = h2 ∧ l1 < l2)) = true := decide_eq_true (.inl c1)
    rw [e]
    clear e
    go_enter Yba.func45, Yba.ntmps45
    go_wp2
    go_ret
    exact ⟨rfl, hB⟩
  · by_cases c2 : h1 = h2
    · have e : decide (h1 < h2 ∨ (h1 = h2 ∧ l1 < l2)) = decide (l1 < l2) := by rw [decide_eq_decide]; omega
      rw [e]
      clear e
      have c2' : (h1 == h2) = true := by simpa using c2
      have C2 : Hid (h1 = h2) := c2
      clear c2
      go_enter Yba.func45, Yba.ntmps45
      go_wp2
      go_ret
      exact ⟨rfl, hB⟩
    · have e : decide (h1 < h2 ∨ (h1 = h2 ∧ l1 < l2)) = false := decide_eq_false (by omega)
      rw [e]
      clear e
      have c2' : (h1 == h2) = false := by simpa using c2
      go_enter Yba.func45, Yba.ntmps45
      go_wp2
      go_ret
      exact ⟨rfl, hB⟩
end Go.Proofs.Ybulkadlc
