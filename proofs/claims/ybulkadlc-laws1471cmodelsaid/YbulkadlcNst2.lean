import Derived.Test.YbulkadlcNst
namespace Go.Proofs.Ybulkadlc
open Go.RowKit Go.QuietTail
set_option linter.unusedVariables false
set_option linter.unusedSimpArgs false

theorem NB.set2 {w : World} {g : Nat} {x : List Int} (hh : NB w g 0 0 x) (h l : Int) : NB ((w.setCell ⟨g, 0, none⟩ (.int .u64 h)).setCell ⟨g, 1, none⟩ (.int .u64 l)) g h l x := by
  have h1 := heap_setCell_same w g 0 _ 85 (.int .u64 h) hh
  have h2 := heap_setCell_same (w.setCell ⟨g, 0, none⟩ (.int .u64 h)) g 1 _ 85 (.int .u64 l) h1
  unfold NB
  rw [h2]
  simp [cellsN]
theorem qload_nb {ops : Array Oper} {C : World → Prop} {Q : Act → Prop} {a : Act} {o : Oper} {rest : List Oper} (hw : Region.wanted o (yielded ops a.tmps) = true) (x : Operand) (ho : o.op = .load 85 x)
    (b off : Nat) (hx : a.eval x = .pointer (some ⟨b, off, none⟩)) (h l : Int) (d : List Int) (hd : IdOk d) (hc : ∀ w, C w → w.rangeAt b off (cellsN h l d))
    (hh : wpQuiet Yba.prog ops C Q rest (a.put o.dst (.agg (cellsN h l d).toArray))) : wpQuiet Yba.prog ops C Q (o :: rest) a :=
  wpQuiet_load_mid hw 85 x ho b off hx (cellsN h l d) _ hc Yba.underlying85 rfl (by rw [info85, cellsN_len _ _ hd]) hh
theorem before_at (W : World) (me : List Int) (after : Bool) (x y : List Int) (r : Bool) (hr : decide (kd me after x < kd me after y) = r) (w : World) (hx : Below W.heap.size W w) :
    Calls Yba.prog 45 #[.agg (ck me after x).toArray, .agg (ck me after y).toArray] w fun e w' => e = .returned (.bool r) ∧ Below W.heap.size W w' := by
  refine (before_any _ _ _ _ x y w).mono ?_
  rintro e w' ⟨rfl, hb⟩
  refine ⟨?_, hx.trans (hb.mono hx.size)⟩
  rw [← hr]
  congr 2
  rw [decide_eq_decide]
  exact (kd_lt me after x y).symm

/-- One near put in at i. -/
theorem OB.ins {w : World} {ob : Nat} {me : List Int} {after : Bool} {l : List (List Int)} {x : List Int} {i : Nat} {cs : List Value} (hx : IdOk x) (hok : IsOk l) (hi : i ≤ l.length) (hl : l.length ≤ 3) (hcl : cs.length = 72) (hct : cs.take (l.length * 18) = flatG (ck me after) l)
    (hw : w.heap[ob]? = some (.cells (splice (splice cs ((i + 1) * 18) (flatG (ck me after) (l.drop i))) (i * 18) (ck me after x)).toArray 86 (0, 0))) (hi3 : i < 3) : OB w ob me after ((l.take i ++ x :: l.drop i).take 3) := by
  have hokt : IsOk (l.take i) := fun y hy => hok y (List.mem_of_mem_take hy)
  have hokd : IsOk (l.drop i) := fun y hy => hok y (List.mem_of_mem_drop hy)
  have hAl : (flatG (ck me after) (l.take i)).length = i * 18 := by rw [flatG_len _ 18 (ck_len hokt), List.length_take, Nat.min_eq_left hi]
  have hDl : (flatG (ck me after) (l.drop i)).length = (l.length - i) * 18 := by rw [flatG_len _ 18 (ck_len hokd), List.length_drop]
  have hXl : (ck me after x).length = 18 := cellsN_len _ _ hx
  have hA : cs.take (i * 18) = flatG (ck me after) (l.take i) := by rw [← flatG_take _ 18 (ck_len hok) i, ← hct, List.take_take, Nat.min_eq_left (by omega)]
  have key := splice_room cs (flatG (ck me after) (l.take i)) (ck me after x) (flatG (ck me after) (l.drop i)) (i * 18) 18 hA hAl hXl (by omega)
  rw [show i * 18 + 18 = (i + 1) * 18 by omega] at key
  have hL : IsOk (l.take i ++ x :: l.drop i) := fun y hy => by
    rw [List.mem_append, List.mem_cons] at hy
    rcases hy with h | rfl | h
    · exact hokt y h
    · exact hx
    · exact hokd y h
  have hLl : (l.take i ++ x :: l.drop i).length = l.length + 1 := by simp; omega
  have hF : flatG (ck me after) (l.take i ++ x :: l.drop i) = flatG (ck me after) (l.take i) ++ (ck me after x ++ flatG (ck me after) (l.drop i)) := by rw [flatG_append, flatG]
  refine ⟨_, hw, ?_, ?_⟩
  · rw [length_splice _ _ _ (by rw [length_splice _ _ _ (by omega)]; omega), length_splice _ _ _ (by omega), hcl]
  · rw [key, List.length_take, hLl]
    have e1 := take_row (flatG (ck me after) (l.take i)) (ck me after x) (flatG (ck me after) (l.drop i)) (cs.drop ((i + 1) * 18 + (flatG (ck me after) (l.drop i)).length)) ((l.length + 1) * 18) (by omega)
    rw [← hF] at e1
    rw [← flatG_take _ 18 (ck_len hL) 3, ← e1, List.take_take]
    congr 1
    rw [Nat.min_def, Nat.min_def]
    split <;> split <;> omega
theorem info85s : (Yba.prog.info? 85).map (·.size) = some 18 := info85
end Go.Proofs.Ybulkadlc
