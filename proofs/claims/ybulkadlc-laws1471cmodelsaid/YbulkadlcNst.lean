import Derived.Test.YbulkadlcPeers
namespace Go.Proofs.Ybulkadlc
open Go.RowKit Go.QuietTail
set_option linter.unusedVariables false
set_option linter.unusedSimpArgs false

def z72 : Array Value := (flatG (fun _ : Nat => cellsN 0 0 zero16) [0, 1, 2, 3]).toArray
theorem info86z : (Yba.prog.info? 86).map (fun i => (i.zero, i.size, i.bytes)) = some (some (.agg z72), 72, 128) := by kernel_rfl
theorem zero86 (w : World) : Sem.run Yba.prog (zeroValue 86) w = .ok (.agg z72) w := by
  obtain ⟨i0, hi0, hz0, hz1, hz2⟩ := info_parts info86z
  simp [zeroValue, typeInfo, hi0, hz0]
/-- The array 'order': its first nears are those of l. -/
def OB (w : World) (ob : Nat) (me : List Int) (after : Bool) (l : List (List Int)) : Prop := ∃ cs : List Value, w.heap[ob]? = some (.cells cs.toArray 86 (0, 0)) ∧ cs.length = 72 ∧ cs.take (l.length * 18) = flatG (ck me after) l
theorem OB.later {w w' : World} {ob : Nat} {me : List Int} {after : Bool} {l : List (List Int)} (h : OB w ob me after l) (hb : Below w.heap.size w w') : OB w' ob me after l := by
  obtain ⟨cs, h1, h2⟩ := h
  exact ⟨cs, by rw [hb.block ob (Array.getElem?_eq_some_iff.1 h1).1]; exact h1, h2⟩
theorem OB.new (w : World) (me : List Int) (after : Bool) : OB (w.alloc (.cells z72 86)) w.heap.size me after [] :=
  ⟨z72.toList, by rw [Array.toArray_toList]; exact heap_alloc_new w _, by rfl, by simp [flatG]⟩
theorem ck_len {me : List Int} {after : Bool} {l : List (List Int)} (h : IsOk l) : ∀ x ∈ l, (ck me after x).length = 18 := fun x hx => cellsN_len _ _ (h x hx)
theorem OB.range {w : World} {ob : Nat} {me : List Int} {after : Bool} {l : List (List Int)} (h : OB w ob me after l) (hok : IsOk l) {j : Nat} {x : List Int} (hj : l[j]? = some x) : w.rangeAt ob (j * 18) (ck me after x) := by
  obtain ⟨cs, h1, h2, h3⟩ := h
  have hjl := (List.getElem?_eq_some_iff.1 hj).1
  intro t v ht
  have ht18 : t < 18 := by
    have := (List.getElem?_eq_some_iff.1 ht).1
    rw [ck_len hok x (List.mem_of_getElem? hj)] at this
    exact this
  have e := flatG_at (ck me after) 18 (ck_len hok) hj ht18
  rw [← h3, List.getElem?_take, if_pos (by omega)] at e
  rw [cell_of_row w ob (j * 18 + t) _ 86 (0, 0) h1]
  simp only [List.getElem?_toArray]
  rw [e]
  exact ht
theorem OB.id {w : World} {ob : Nat} {me : List Int} {after : Bool} {l : List (List Int)} (h : OB w ob me after l) (hok : IsOk l) {j : Nat} {x : List Int} (hj : l[j]? = some x) : w.rangeAt ob (j * 18 + 2) (cellsId x) := by
  have := h.range hok hj
  intro t v ht
  have h2 := this (t + 2) v (by simpa [ck, cellsN] using ht)
  rw [show j * 18 + 2 + t = j * 18 + (t + 2) by omega]
  exact h2
theorem wpList_store_nb {ops : Array Oper} {rest : List Oper} {o : Oper} {a : Act} {w : World} {Q : Exit → Act → World → Prop} (hgd : o.guard = none) (x y : Operand) (ho : o.op = .store 85 x y)
    (g : Nat) (hx : a.eval x = .pointer (some ⟨g, 0, none⟩)) (h l : Int) (d : List Int) (hd : IdOk d) (hy : a.eval y = .agg (cellsN h l d).toArray) (h0 l0 : Int) (d0 : List Int) (hd0 : IdOk d0) (hg : NB w g h0 l0 d0)
    (hh : ∀ w', NB w' g h l d → w.grownBy w' (some g) → wpList Yba.prog ops Q rest (a.put o.dst undef) w') : wpList Yba.prog ops Q (o :: rest) a w :=
  wpList_store_row hgd 85 x y ho g (cellsN h l d).toArray hx hy 85 (cellsN h0 l0 d0).toArray hg (by rw [info85]; simp [cellsN_len _ _ hd]) (by simp [cellsN_len _ _ hd, cellsN_len _ _ hd0]) (all_oneCell_toArray (cellsN_one h l d))
    (hh _ (setRow_heap w g _ _ 85 _ hg) (grownBy_setRow _ _ _))
theorem NB.new (w : World) (h l : Int) (d : List Int) : NB (w.alloc (.cells (cellsN h l d).toArray 85)) w.heap.size h l d := heap_alloc_new w _
theorem gap_at (W : World) (a b : List Int) (ha : IdOk a) (hb : IdOk b) (w : World) (hx : Below W.heap.size W w) :
    Calls Yba.prog 26 #[.agg (cellsId a).toArray, .agg (cellsId b).toArray] w fun e w' => e = .returned (.tuple #[.int .u64 (gapHi a b), .int .u64 (gapLo a b)]) ∧ Below W.heap.size W w' := by
  refine (gap_any a b ha hb w).mono ?_
  rintro e w' ⟨rfl, hb'⟩
  exact ⟨rfl, hx.trans (hb'.mono hx.size)⟩
end Go.Proofs.Ybulkadlc
