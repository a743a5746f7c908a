import Derived.Test.YbulkadlcInsG
namespace Go.Proofs.Ybulkadlc
open Go.RowKit Go.QuietTail
set_option linter.unusedVariables false
set_option linter.unusedSimpArgs false

theorem run_storeVar_row {P : Program} (w : World) (g o : Nat) (ty : TypeId) (cs cur : List Value) (t : TypeId) (hg : w.heap[g]? = some (.cells cur.toArray t (0, 0))) (hfit : o + cs.length ≤ cur.length)
    (hi : (P.info? ty).map (·.size) = some cs.length) (h1 : ∀ v ∈ cs, v.oneCell' = true) :
    (storeVar ty ⟨g, o, none⟩ (.agg cs.toArray)).run P w = .ok () (w.setRow g (splice cur o cs).toArray) := by
  have := run_storeCells_at P g o t cs 0 cur.toArray w hg (by simpa using hfit) h1
  cases hq : P.info? ty with
  | none => simp [hq] at hi
  | some i =>
    have hs : cs.length = i.size := by simp [hq] at hi; omega
    simp only [Nat.add_zero] at this
    simp [storeVar, sizeOf, typeInfo, hq, Value.cells, hs, this, splice]

/-- A store of a row into the middle of a row that is known whole. -/
theorem wpList_store_splice {P : Program} {ops : Array Oper} {rest : List Oper} {op : Oper} {a : Act} {w : World} {Q : Exit → Act → World → Prop} (hgd : op.guard = none) (ty : TypeId) (x y : Operand) (ho : op.op = .store ty x y)
    (g o : Nat) (cs cur : List Value) (hx : a.eval x = .pointer (some ⟨g, o, none⟩)) (hy : a.eval y = .agg cs.toArray) (t : TypeId) (hg : w.heap[g]? = some (.cells cur.toArray t (0, 0))) (hfit : o + cs.length ≤ cur.length)
    (hi : (P.info? ty).map (·.size) = some cs.length) (h1 : ∀ v ∈ cs, v.oneCell' = true)
    (h : ∀ w', Hid (w'.heap[g]? = some (.cells (splice cur o cs).toArray t (0, 0))) → w.grownBy w' (some g) → wpList P ops Q rest (a.put op.dst undef) w') : wpList P ops Q (op :: rest) a w :=
  wpList_plain hgd fun _ hK => by
    unfold Oper.wp execOp
    simp only [ho, hx, hy, Instr.storeAt, Instr.sureAddr, Sem.run_bind, Sem.run_pure, Result.andThen_ok, run_storeVar_row w g o ty cs cur t hg hfit hi h1]
    exact hK _ _ (h _ (setRow_heap w g _ _ t _ hg) (grownBy_setRow _ _ _))

/-- A load of a row, as a step of a quiet walk. -/
theorem wpQuiet_load_mid {P : Program} {ops : Array Oper} {C : World → Prop} {Q : Act → Prop} {a : Act} {o : Oper} {rest : List Oper} (hw : Region.wanted o (yielded ops a.tmps) = true) (ty : TypeId) (x : Operand) (ho : o.op = .load ty x)
    (b off : Nat) (hx : a.eval x = .pointer (some ⟨b, off, none⟩)) (cs : List Value) (d : TypeDesc) (hc : ∀ w, C w → w.rangeAt b off cs)
    (hu : P.underlying ty = some d) (hd : d.isRow = true) (hi : (P.info? ty).map (·.size) = some cs.length) (h : wpQuiet P ops C Q rest (a.put o.dst (.agg cs.toArray))) : wpQuiet P ops C Q (o :: rest) a :=
  wpQuiet_step fun K hK => by
    rw [if_pos hw]
    refine ⟨.agg cs.toArray, fun w hw' => ?_, hK _ h⟩
    unfold Oper.quietAt execOp
    simp only [ho, hx, Instr.loadAt, Instr.sureAddr, Sem.run_bind, Sem.run_pure, Result.andThen_ok, run_loadVar_mid w b off ty cs d (hc w hw') hu hd hi]
    exact ⟨rfl, rfl⟩
/-- The same for an ID. -/
theorem qload_id {ops : Array Oper} {C : World → Prop} {Q : Act → Prop} {a : Act} {o : Oper} {rest : List Oper} (hw : Region.wanted o (yielded ops a.tmps) = true) (x : Operand) (ho : o.op = .load 23 x)
    (b off : Nat) (hx : a.eval x = .pointer (some ⟨b, off, none⟩)) (d : List Int) (hd : d.length = 16) (hc : ∀ w, C w → w.rangeAt b off (cellsId d))
    (h : wpQuiet Yba.prog ops C Q rest (a.put o.dst (.agg (cellsId d).toArray))) : wpQuiet Yba.prog ops C Q (o :: rest) a :=
  wpQuiet_load_mid hw 23 x ho b off hx (cellsId d) _ hc Yba.underlying23 rfl (by rw [info23]; simp [cellsId, hd]) h
theorem Blk.range {w : World} {s : Nat} {d : List Int} (h : Blk w s d) : w.rangeAt s 0 (cellsId d) := fun j v hv => by
  rw [cell_of_row w s (0 + j) _ 23 (0, 0) h]
  simpa using hv
end Go.Proofs.Ybulkadlc
