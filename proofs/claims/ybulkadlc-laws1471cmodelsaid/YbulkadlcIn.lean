import Derived.Test.YbulkadlcSt
namespace Go.Proofs.Ybulkadlc
open Go.RowKit Go.QuietTail
set_option linter.unusedVariables false
set_option linter.unusedSimpArgs false

set_option maxHeartbeats 1000000 in
theorem clone_ad (ad : Addr) (n c : Nat) (ss : List (List Int)) (w : World) (hok : IsOk ss) (hln : ss.length = n) (hn : n ≤ 4096) (hc : ∀ j u, (flatI ss)[j]? = some u → w.cell? (ad.add j) = some u) :
    Calls Yba.prog 6 #[.slice (some ad) n c] w fun e w' => ∃ v, e = .returned v ∧ (Ids w' w.heap.size v ss ∧ Below w.heap.size w w') := by
  obtain ⟨i0, hi0, hz0, hz1, hz2⟩ := info_parts info23z
  have q24 : ∀ (w : World) (a : Option Addr) (n c n' c' : Nat), (binOp .eql 24 (.slice a n c) (.slice none n' c')).run Yba.prog w = .ok (.bool a.isNone) w := fun w a n c n' c' => Lib.run_eql_slice_nil w _ _ a n c n' c' Yba.underlying24
  have HC : Hid (∀ j u, (flatI ss)[j]? = some u → w.cell? (ad.add j) = some u) := hc
  have HL : Hid (ss.length = n) := hln
  clear hc hln
  go_enter Yba.func6, Yba.ntmps6
  go_wp2_with (at_builtin; refine wpList_append_own _ rfl (.tmp 5) (.tmp 6) 24 rfl w.heap.size 23 i0 zeroI 16 16 Yba.underlying24 hi0 hz0 hz1 hz2 zeroI_size (by omega) _ _ _ rfl (World.ownsRow_made w #[] 0 (Nat.le_refl _) (Nat.zero_le _) (by simp)) ad n c (flatI ss) rfl ?qc1 ?qc2 (flatI_one ss) ?qc4 ?qc5 ?qc6 ?_)
  case qc1 => rw [flatI_len hok, HL.out]
  case qc2 =>
    intro j u hj
    exact Lib.cell?_alloc_some _ (HC.out j u hj)
  case qc4 => unfold maxLen; omega
  case qc5 => omega
  case qc6 => simp
  intro v' w1 hown hgrow hnil
  go_wp2
  go_ret
  refine ⟨v', rfl, ?_, ?_⟩
  · unfold Ids; rw [HL.out]; simpa using hown
  · exact ((Below.refl _ w).alloc (Nat.le_refl _) _).grown hgrow (by simp) (by intro k hk; simp [Value.ownBlock] at hk; omega)

theorem Ids.form2 {w : World} {B : Nat} {v : Value} {l : List (List Int)} (h : Ids w B v l) : ∃ p n c, v = .slice p n c := by
  rcases h.2 with ⟨hv, _⟩ | ⟨g, cap, cur, hv, _⟩
  · exact ⟨_, _, _, hv⟩
  · exact ⟨_, _, _, hv⟩
/-- A slice of IDs that came in. -/
def IdsIn (w : World) (a : Option Addr) (ss : List (List Int)) : Prop := (a = none → ss = []) ∧ ∀ ad, a = some ad → ∀ j u, (flatI ss)[j]? = some u → w.cell? (ad.add j) = some u
theorem IdsIn.later {w w' : World} {a : Option Addr} {ss : List (List Int)} (h : IdsIn w a ss) (hb : Below w.heap.size w w') : IdsIn w' a ss :=
  ⟨h.1, fun ad had j u hj => by
    have h0 := h.2 ad had j u hj
    have : (ad.add j).block < w.heap.size := block_lt_of_cell h0
    rw [hb.cell (p := ad.add j) this]
    exact h0⟩
theorem clone_any (a : Option Addr) (n c : Nat) (ss : List (List Int)) (w : World) (hok : IsOk ss) (hln : ss.length = n) (hn : n ≤ 4096) (hc0 : a = none → c = 0) (hc : IdsIn w a ss) :
    Calls Yba.prog 6 #[.slice a n c] w fun e w' => ∃ v, e = .returned v ∧ (Ids w' w.heap.size v ss ∧ Below w.heap.size w w') := by
  cases a with
  | none =>
    have h0 := hc0 rfl
    have h1 := hc.1 rfl
    subst h0; subst h1
    obtain rfl : n = 0 := by simpa using hln.symm
    exact clone_nil w
  | some ad => exact clone_ad ad n c ss w hok hln hn (hc.2 ad rfl)

/-- One row of the script. -/
structure Zz where
  e : Int
  off : Int
  ir : Bool
  raw : List Int
def zCells (z : Zz) : List Value := .int .u8 z.e :: .int .u64 z.off :: .bool z.ir :: cellsId z.raw
def ZOk (z : Zz) : Prop := (0 ≤ z.e ∧ z.e ≤ 255) ∧ (0 ≤ z.off ∧ z.off < 18446744073709551616) ∧ IdOk z.raw
def ZsIn (w : World) (a : Option Addr) (zs : List Zz) : Prop := 0 < zs.length → ∃ b o, a = some ⟨b, o, none⟩ ∧ b < w.heap.size ∧ ∀ j z, zs[j]? = some z → w.rangeAt b (o + j * 19) (zCells z)
def BsIn (w : World) (a : Option Addr) (bs : List Bool) : Prop := 0 < bs.length → ∃ b o, a = some ⟨b, o, none⟩ ∧ b < w.heap.size ∧ ∀ j, j < bs.length → w.cell? ⟨b, o + j, none⟩ = some (.bool (bs.getD j false))

theorem enters6 (args : Array Value) (w : World) : (callFunc 6 args).run Yba.prog w = .ok (.enter 6 args) w := by
  have hf := Yba.func6
  have h1 : Yba.f6.name ≠ "runtime.NumGoroutine" := by decide +kernel
  have hb : ∃ c, Yba.f6.body = some c := ⟨_, rfl⟩
  obtain ⟨c, hb⟩ := hb
  simp [callFunc, hf, h1, hb, mark]
theorem step_clone {ops : Array Oper} {o : Oper} {a : Act} {w : World} {K : Act → World → Prop} {Q : Exit → Act → World → Prop} {E : Prop}
    (hg : o.guard = none) (x : Operand) (ts : Array TypeId) (hop : o.op = Op.call { callee := Callee.value (Operand.func 6), args := #[x], argTypes := ts })
    (vx : Value) (hx : a.eval x = vx) (R : Value → World → Prop) (h : Calls Yba.prog 6 #[vx] w fun e w' => ∃ v, e = .returned v ∧ R v w') (hK : ∀ v w', R v w' → K (a.put o.dst v) w') :
    if Region.wanted o (yielded ops a.tmps) = true then Oper.wp Yba.prog o a w K Q else E := by
  have hw : Region.wanted o (yielded ops a.tmps) = true := by simp [Region.wanted, hg]
  rw [if_pos hw]
  unfold Oper.wp
  have hf := enters6 #[vx] w
  have he : a.eval (Operand.func 6) = Value.func (Fn.func 6) #[] #[] := rfl
  simp [execOp, hop, resolve, invoke, hx, he, Deferred.ofValue, hf, Result.andThen]
  rw [Oper.upon_enter]
  refine h.mono ?_
  rintro e w' ⟨v, rfl, hR⟩
  exact hK v w' hR


theorem zCells_len {z : Zz} (h : ZOk z) : (zCells z).length = 19 := by simp [zCells, cellsId, h.2.2.1]
theorem info37 : (Yba.prog.info? 37).map (·.size) = some 19 := by kernel_rfl
theorem zCells_one (z : Zz) : ∀ v ∈ zCells z, v.oneCell' = true := by
  intro v hv
  simp only [zCells, List.mem_cons] at hv
  rcases hv with rfl | rfl | rfl | hv
  · rfl
  · rfl
  · rfl
  · exact cellsId_one _ v hv
def ZB (w : World) (g : Nat) (z : Zz) : Prop := w.heap[g]? = some (.cells (zCells z).toArray 37 (0, 0))
theorem ZB.new (w : World) (z : Zz) : ZB (w.alloc (.cells (zCells z).toArray 37)) w.heap.size z := heap_alloc_new w _
theorem ZB.later {w w' : World} {g : Nat} {z : Zz} (h : ZB w g z) (hb : Below w.heap.size w w') : ZB w' g z := by
  unfold ZB at *
  rw [hb.block g (Array.getElem?_eq_some_iff.1 h).1]
  exact h
theorem ZB.c0 {w : World} {g : Nat} {z : Zz} (h : ZB w g z) : w.cell? ⟨g, 0, none⟩ = some (.int .u8 z.e) := by rw [cell_of_row w g 0 _ 37 (0, 0) h]; rfl
theorem ZB.c1 {w : World} {g : Nat} {z : Zz} (h : ZB w g z) : w.cell? ⟨g, 1, none⟩ = some (.int .u64 z.off) := by rw [cell_of_row w g 1 _ 37 (0, 0) h]; rfl
theorem ZB.c2 {w : World} {g : Nat} {z : Zz} (h : ZB w g z) : w.cell? ⟨g, 2, none⟩ = some (.bool z.ir) := by rw [cell_of_row w g 2 _ 37 (0, 0) h]; rfl
theorem ZB.raw {w : World} {g : Nat} {z : Zz} (h : ZB w g z) : w.rangeAt g 3 (cellsId z.raw) := fun j v hv => by
  rw [cell_of_row w g (3 + j) _ 37 (0, 0) h]
  simp only [zCells]
  rw [Nat.add_comm]
  simpa using hv
theorem wpList_store_z {ops : Array Oper} {rest : List Oper} {o : Oper} {a : Act} {w : World} {Q : Exit → Act → World → Prop} (hgd : o.guard = none) (x y : Operand) (ho : o.op = .store 37 x y)
    (g : Nat) (hx : a.eval x = .pointer (some ⟨g, 0, none⟩)) (z : Zz) (hz : (zCells z).length = 19) (hy : a.eval y = .agg (zCells z).toArray) (z0 : Zz) (hz0 : (zCells z0).length = 19) (hg : ZB w g z0)
    (h : ∀ w', ZB w' g z → w.grownBy w' (some g) → wpList Yba.prog ops Q rest (a.put o.dst undef) w') : wpList Yba.prog ops Q (o :: rest) a w :=
  wpList_store_row hgd 37 x y ho g (zCells z).toArray hx hy 37 (zCells z0).toArray hg (by rw [info37]; simp [hz]) (by simp [hz, hz0]) (all_oneCell_toArray (zCells_one z))
    (h _ (setRow_heap w g _ _ 37 _ hg) (grownBy_setRow _ _ _))
end Go.Proofs.Ybulkadlc
