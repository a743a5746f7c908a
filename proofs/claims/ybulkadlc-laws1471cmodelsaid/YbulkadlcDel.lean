import Derived.Test.YbulkadlcNst2
namespace Go.Proofs.Ybulkadlc
open Go.RowKit Go.QuietTail
set_option linter.unusedVariables false
set_option linter.unusedSimpArgs false

theorem Ids.set {w' : World} {B g cap : Nat} {l : List (List Int)} {cur : Array Value} (hok : IsOk l) (k : Nat) (d : List Int) (hk : k < l.length) (hd : IdOk d) (hBg : B ≤ g) (hnc : l.length ≤ cap) (hcm : cap ≤ maxLen) (hcs : cur.size = cap * 16)
    (htk : cur.toList.take (l.length * 16) = flatI l) (hw : w'.heap[g]? = some (.cells (splice cur.toList (k * 16) (cellsId d)).toArray 23 (0, 0))) : Ids w' B (.slice (some ⟨g, 0, none⟩) l.length cap) (l.set k d) := by
  have hdl : (cellsId d).length = 16 := cellsId_len hd
  have hcl : cur.toList.length = cap * 16 := by simpa using hcs
  have hokt : IsOk (l.take k) := fun y hy => hok y (List.mem_of_mem_take hy)
  have e0 : l.set k d = l.take k ++ d :: l.drop (k + 1) := by rw [List.set_eq_take_append_cons_drop, if_pos hk]
  have e1 : cur.toList.take (k * 16) = flatI (l.take k) := by rw [← flatI_take hok k, ← htk, List.take_take, Nat.min_eq_left (by omega)]
  have hf : IsOk (l.set k d) := fun y hy => by
    rcases List.mem_or_eq_of_mem_set hy with h | rfl
    · exact hok y h
    · exact hd
  have e4 : (cur.toList.drop ((k + 1) * 16)).take ((l.length - (k + 1)) * 16) = flatI (l.drop (k + 1)) := by
    rw [← flatI_drop hok (k + 1), ← htk, List.drop_take]
    congr 1
    omega
  refine ⟨?_, .inr ⟨g, cap, _, ?_, hBg, hw, ?_, hcm, ?_, ?_⟩⟩
  · rw [flatI_len hf]
  · rw [List.length_set]
  · rw [List.length_set]; exact hnc
  · rw [List.size_toArray, length_splice _ _ _ (by omega), hcl]
  · rw [List.length_set, List.toList_toArray]
    unfold splice
    rw [e1, hdl, show k * 16 + 16 = (k + 1) * 16 by omega, e0, flatI_append, flatI]
    rw [show l.length * 16 = (flatI (l.take k)).length + (16 + (l.length - (k + 1)) * 16) by rw [flatI_len hokt, List.length_take]; omega, List.take_length_add_append]
    congr 1
    rw [show 16 = (cellsId d).length by rw [hdl], List.take_length_add_append]
    congr 1
    rw [hdl]
    exact e4

def zerosI (n : Nat) : List Value := (Builtin.zeroCells zeroI.cells n).toList
theorem zerosI_len (n : Nat) : (zerosI n).length = n * 16 := by simp [zerosI, Builtin.zeroCells, zeroI_size]
theorem zerosI_one (n : Nat) : ∀ v ∈ zerosI n, v.oneCell' = true := by
  intro v hv
  have key : ∀ i : Fin 16, (zeroI.cells[i.val]!).oneCell' = true := by decide
  simp only [zerosI, Builtin.zeroCells, Array.toList_map, List.mem_map] at hv
  obtain ⟨i, _, rfl⟩ := hv
  rw [zeroI_size]
  exact key ⟨i % 16, Nat.mod_lt _ (by decide)⟩
theorem zero23 (w : World) : (zeroValue 23).run Yba.prog w = .ok zeroI w := by
  obtain ⟨i0, hi0, hz0, hz1, hz2⟩ := info_parts info23z
  simp [zeroValue, typeInfo, hi0, hz0]
theorem run_clear_row (w : World) (ty : TypeId) (g off n c : Nat) (hn : 0 < n) (cur : List Value) (t : TypeId) (hg : w.heap[g]? = some (.cells cur.toArray t (0, 0))) (hfit : off + n * 16 ≤ cur.length) :
    (Builtin.clear_ #[24] ty #[.slice (some ⟨g, off, none⟩) n c]).run Yba.prog w = .ok (.tuple #[]) (w.setRow g (splice cur off (zerosI n)).toArray) := by
  have hst := run_storeCells_at Yba.prog g off t (zerosI n) 0 cur.toArray w hg (by rw [zerosI_len]; simpa using hfit) (zerosI_one n)
  simp only [Nat.add_zero] at hst
  obtain ⟨m, rfl⟩ : ∃ m, n = m + 1 := ⟨n - 1, by omega⟩
  simp only [zerosI] at hst
  simp [Builtin.clear_, run_underlying Yba.underlying24, zero23, splice, zerosI]
  change ((Sem.run Yba.prog (storeCells ⟨g, off, none⟩ (Builtin.zeroCells zeroI.cells (m + 1)).toList) w).andThen fun a w' => Result.ok (Value.tuple #[]) w') = _
  rw [hst]
  simp [Result.andThen]
theorem wpList_clear_row {w : World} {ops : Array Oper} {rest : List Oper} {o : Oper} {a : Act} {Q : Exit → Act → World → Prop} (hgd : o.guard = none) (d : Operand)
    (ho : o.op = .call { callee := .builtin .clear, args := #[d], argTypes := #[24] }) (g off n c : Nat) (hd : a.eval d = .slice (some ⟨g, off, none⟩) n c) (hn : 0 < n)
    (cur : List Value) (t : TypeId) (hg : w.heap[g]? = some (.cells cur.toArray t (0, 0))) (hfit : off + n * 16 ≤ cur.length)
    (h : ∀ w', Hid (w'.heap[g]? = some (.cells (splice cur off (zerosI n)).toArray t (0, 0))) → w.grownBy w' (some g) → wpList Yba.prog ops Q rest (a.put o.dst (.tuple #[])) w') : wpList Yba.prog ops Q (o :: rest) a w := by
  refine wpList_plain hgd fun K hK => ?_
  have hrun := run_clear_row w o.type g off n c hn cur t hg hfit
  unfold Oper.wp
  simp [execOp, ho, resolve, invoke, builtin, hd, hrun, Result.andThen]
  exact hK _ _ (h _ (setRow_heap w g _ _ t _ hg) (grownBy_setRow _ _ _))

/-! Remove$1 -/
set_option maxHeartbeats 1000000 in
theorem del_any (x d : List Int) (hx : IdOk x) (hd : IdOk d) (ib : Nat) (w : World) (hB : Blk w ib d) :
    Calls Yba.prog 40 #[.agg (cellsId x).toArray, .pointer (some ⟨ib, 0, none⟩)] w fun e w' => e = .returned (.bool (decide (x = d))) ∧ Below w.heap.size w w' := by
  have hb := (Below.refl w.heap.size w).alloc (Nat.le_refl _) (.cells (cellsId x).toArray 23)
  have B1 := Blk.new w x
  have B2 := hB.alloc (.cells (cellsId x).toArray 23)
  have ng := noGuard23
  have eq1 := fun w => run_eql_id x d hx.1 hd.1 w
  go_enter Yba.func40, Yba.ntmps40
  go_wp2_with (first | (refine wpList_load_id rfl (.tmp 2) rfl _ rfl x hx.1 B1 ?_) | (refine wpList_load_id rfl (.tmp 1) rfl _ rfl d hd.1 B2 ?_))
  go_ret
  exact ⟨rfl, hb⟩
end Go.Proofs.Ybulkadlc
