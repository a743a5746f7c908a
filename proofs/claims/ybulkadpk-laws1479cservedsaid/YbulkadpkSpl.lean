import Derived.Test.YbulkadpkSv
import Derived.Deep.MidRow
import Derived.Laws.Tables
namespace Go.Proofs.Ybulkadpk
open Go.RowKit Go.QuietTail
set_option linter.unusedVariables false
set_option linter.unusedSimpArgs false

/-- A block that holds just these cells. -/
structure Blk (w : World) (g : Nat) (t : TypeId) (cs : List Value) : Prop where
  h : w.heap[g]? = some (.cells cs.toArray t (0, 0))
theorem Blk.new (w : World) (t : TypeId) (cs : List Value) : Blk (w.alloc (.cells cs.toArray t)) w.heap.size t cs := ⟨heap_alloc_new w _⟩
theorem Blk.lt {w : World} {g : Nat} {t : TypeId} {cs : List Value} (h : Blk w g t cs) : g < w.heap.size := (Array.getElem?_eq_some_iff.1 h.h).1
theorem Blk.kept {w w' : World} {g : Nat} {t : TypeId} {cs : List Value} {row : Option Nat} (h : Blk w g t cs) (hg : w.grownBy w' row) (hne : some g ≠ row) : Blk w' g t cs := ⟨(hg.block g h.lt hne).trans h.h⟩
theorem Blk.later {w w' : World} {n g : Nat} {t : TypeId} {cs : List Value} (h : Blk w g t cs) (hb : Below n w w') (hn : g < n) : Blk w' g t cs := ⟨(hb.block g hn).trans h.h⟩
theorem Blk.on {w w' : World} {g : Nat} {t : TypeId} {cs : List Value} (h : Blk w g t cs) (hb : Below w.heap.size w w') : Blk w' g t cs := h.later hb h.lt
theorem Blk.alloc {w : World} {g : Nat} {t : TypeId} {cs : List Value} (h : Blk w g t cs) (o : Obj) : Blk (w.alloc o) g t cs := h.on ((Below.refl _ _).alloc (Nat.le_refl _) _)
theorem Blk.cell {w : World} {g : Nat} {t : TypeId} {cs : List Value} (h : Blk w g t cs) (j : Nat) : w.cell? ⟨g, j, none⟩ = cs[j]? := by
  rw [cell_of_row w g j _ t (0, 0) h.h]
  simp
theorem Blk.frozen {w : World} {g : Nat} {t : TypeId} {cs : List Value} (h : Blk w g t cs) (j : Nat) : w.frozen? ⟨g, j, none⟩ = false := frozen_of_row w g j _ t h.h
theorem Blk.stored {w : World} {g : Nat} {t : TypeId} {cs : List Value} (h : Blk w g t cs) (j : Nat) (x : Value) : Blk (w.setCell ⟨g, j, none⟩ x) g t (cs.set j x) := by
  have := heap_setCell_same w g j _ t x h.h
  refine ⟨?_⟩
  rw [this]
  simp
theorem grownBy_setCell (w : World) (g j : Nat) (v : Value) : w.grownBy (w.setCell ⟨g, j, none⟩ v) (some g) :=
  ⟨rfl, rfl, rfl, by simp, fun k _ hk => heap_setCell_other w ⟨g, j, none⟩ k v (fun e => hk (by simp [e]))⟩
theorem grownBy_setRow (w : World) (g : Nat) (cs : Array Value) : w.grownBy (w.setRow g cs) (some g) :=
  ⟨rfl, rfl, rfl, by simp [World.setRow], fun k _ hk => setRow_other w g k cs (fun e => hk (by rw [e]))⟩
theorem wpList_load_blk {ops : Array Oper} {rest : List Oper} {o : Oper} {a : Act} {w : World} {Q : Exit → Act → World → Prop} (hgd : o.guard = none) (ty : TypeId) (x : Operand) (ho : o.op = .load ty x)
    (g : Nat) (hx : a.eval x = .pointer (some ⟨g, 0, none⟩)) (cs : List Value) (fs : Array Field) (hg : Blk w g ty cs) (hu : Yba.prog.underlying ty = some (.struct fs)) (hi : (Yba.prog.info? ty).map (·.size) = some cs.length)
    (h : wpList Yba.prog ops Q rest (a.put o.dst (.agg cs.toArray)) w) : wpList Yba.prog ops Q (o :: rest) a w :=
  wpList_load_row hgd ty x ho g hx ty cs.toArray (0, 0) _ hg.h hu rfl (by simpa using hi) h
theorem wpList_store_blk {ops : Array Oper} {rest : List Oper} {o : Oper} {a : Act} {w : World} {Q : Exit → Act → World → Prop} (hgd : o.guard = none) (ty : TypeId) (x y : Operand) (ho : o.op = .store ty x y)
    (g : Nat) (hx : a.eval x = .pointer (some ⟨g, 0, none⟩)) (cs : List Value) (hy : a.eval y = .agg cs.toArray) (cs0 : List Value) (hg : Blk w g ty cs0) (hi : (Yba.prog.info? ty).map (·.size) = some cs.length) (hl : cs0.length = cs.length) (h1 : ∀ u ∈ cs, u.oneCell' = true)
    (h : ∀ w', Blk w' g ty cs → w.grownBy w' (some g) → wpList Yba.prog ops Q rest (a.put o.dst undef) w') : wpList Yba.prog ops Q (o :: rest) a w :=
  wpList_store_row hgd ty x y ho g cs.toArray hx hy ty cs0.toArray hg.h (by simpa using hi) (by simpa using hl) (all_oneCell_toArray h1)
    (h _ ⟨setRow_heap w g _ _ ty _ hg.h⟩ (grownBy_setRow _ _ _))

def famC (nm ty : ByteArray) (prom : Bool) (ms : Value) : List Value := [.string nm, .string ty, .string ByteArray.empty, .string ⟨#[104]⟩, .bool prom, ms]
theorem size95 : (Yba.prog.info? 95).map (·.size) = some 3 := by kernel_rfl
theorem size79 : (Yba.prog.info? 79).map (·.size) = some 6 := by kernel_rfl
theorem nmB_size (n : Int) : (nmB n).size = 1 := by
  unfold nmB
  split
  · rfl
  · split <;> rfl

theorem part_tot (nm : ByteArray) (w : World) : Calls Yba.prog 23 #[.string nm, .string ⟨#[95, 116, 111, 116, 97, 108]⟩] w fun e w' => e = .returned (.agg #[.string nm, .string ⟨#[117, 110, 107, 110, 111, 119, 110]⟩, .bool true]) ∧ Below w.heap.size w w' := by
  go_enter Yba.func23, Yba.ntmps23
  go_wp2
  refine bodyPost_ret (results_cell_row Yba.results23 _ _ w.heap.size 95 _ (0, 0) _ rfl (heap_alloc_new w _) Yba.underlying95 rfl size95) rfl ?_
  exact ⟨rfl, (Below.refl _ w).alloc (Nat.le_refl _) _⟩
theorem part_cre (nm : ByteArray) (w : World) : Calls Yba.prog 23 #[.string nm, .string ⟨#[95, 99, 114, 101, 97, 116, 101, 100]⟩] w fun e w' => e = .returned (.agg #[.string nm, .string ⟨#[103, 97, 117, 103, 101]⟩, .bool false]) ∧ Below w.heap.size w w' := by
  go_enter Yba.func23, Yba.ntmps23
  go_wp2
  refine bodyPost_ret (results_cell_row Yba.results23 _ _ w.heap.size 95 _ (0, 0) _ rfl (heap_alloc_new w _) Yba.underlying95 rfl size95) rfl ?_
  exact ⟨rfl, (Below.refl _ w).alloc (Nat.le_refl _) _⟩
theorem famC_one (nm ty : ByteArray) (prom : Bool) (a : Option Addr) (n c : Nat) : ∀ u ∈ famC nm ty prom (.slice a n c), u.oneCell' = true := by
  intro u hu
  simp [famC] at hu
  rcases hu with rfl | rfl | rfl | rfl | rfl | rfl <;> rfl
theorem sub_tot (nm ty : ByteArray) (prom : Bool) (ms : Value) (f : Nat) (w : World) (hs : nm.size ≤ 100) (hf : Blk w f 79 (famC nm ty prom ms)) :
    Calls Yba.prog 22 #[.string ⟨#[95, 116, 111, 116, 97, 108]⟩, .pointer (some ⟨f, 0, none⟩)] w fun e w' => e = .returned (.agg (famC (nm ++ ⟨#[95, 116, 111, 116, 97, 108]⟩) ⟨#[117, 110, 107, 110, 111, 119, 110]⟩ true (.slice none 0 0)).toArray) ∧ Below w.heap.size w w' := by
  have hlt := hf.lt
  have c0 : w.cell? ⟨f, 0, none⟩ = some (.string nm) := hf.cell 0
  have HF : Hid (Blk w f 79 (famC nm ty prom ms)) := hf
  clear hf
  go_enter Yba.func22, Yba.ntmps22
  go_wp2_with (first | (go_at_call 23; refine (part_tot _ _).mono ?_; rintro e w1 ⟨rfl, hb1⟩; have HB1 : Hid _ := hb1; clear hb1; have c3 : w1.cell? ⟨f, 3, none⟩ = some (.string ⟨#[104]⟩) := ((HF.out.alloc _).on HB1.out).cell 3; have hlt1 : f < w1.heap.size := ((HF.out.alloc _).on HB1.out).lt; have HR : Hid (Blk w1 w.heap.size 79 [.string ⟨#[]⟩, .string ⟨#[]⟩, .string ⟨#[]⟩, .string ⟨#[]⟩, .bool false, .slice none 0 0]) := (Blk.new w 79 [.string ⟨#[]⟩, .string ⟨#[]⟩, .string ⟨#[]⟩, .string ⟨#[]⟩, .bool false, .slice none 0 0]).on HB1.out) | (refine wpList_store_blk rfl 79 (.tmp 3) (.tmp 19) rfl _ rfl (famC (nm ++ ⟨#[95, 116, 111, 116, 97, 108]⟩) ⟨#[117, 110, 107, 110, 111, 119, 110]⟩ true (.slice none 0 0)) rfl _ (HR.out.alloc _) size79 rfl (famC_one _ _ _ _ _ _) ?_; intro w2 hR2 hg2))
  refine bodyPost_ret (results_cell_row Yba.results22 _ _ w.heap.size 79 _ (0, 0) _ rfl hR2.h Yba.underlying79 rfl size79) rfl ?_
  refine ⟨rfl, ?_⟩
  have b1 : Below w.heap.size w w1 := ((Below.refl _ w).alloc (Nat.le_refl _) _).trans (HB1.out.mono (by simp))
  exact (b1.alloc b1.size _).grown hg2 (by simp; have := b1.size; omega) (by rintro k ⟨⟩; exact Nat.le_refl _)
theorem sub_cre (nm ty : ByteArray) (prom : Bool) (ms : Value) (f : Nat) (w : World) (hs : nm.size ≤ 100) (hf : Blk w f 79 (famC nm ty prom ms)) :
    Calls Yba.prog 22 #[.string ⟨#[95, 99, 114, 101, 97, 116, 101, 100]⟩, .pointer (some ⟨f, 0, none⟩)] w fun e w' => e = .returned (.agg (famC (nm ++ ⟨#[95, 99, 114, 101, 97, 116, 101, 100]⟩) ⟨#[103, 97, 117, 103, 101]⟩ false (.slice none 0 0)).toArray) ∧ Below w.heap.size w w' := by
  have hlt := hf.lt
  have c0 : w.cell? ⟨f, 0, none⟩ = some (.string nm) := hf.cell 0
  have HF : Hid (Blk w f 79 (famC nm ty prom ms)) := hf
  clear hf
  go_enter Yba.func22, Yba.ntmps22
  go_wp2_with (first | (go_at_call 23; refine (part_cre _ _).mono ?_; rintro e w1 ⟨rfl, hb1⟩; have HB1 : Hid _ := hb1; clear hb1; have c3 : w1.cell? ⟨f, 3, none⟩ = some (.string ⟨#[104]⟩) := ((HF.out.alloc _).on HB1.out).cell 3; have hlt1 : f < w1.heap.size := ((HF.out.alloc _).on HB1.out).lt; have HR : Hid (Blk w1 w.heap.size 79 [.string ⟨#[]⟩, .string ⟨#[]⟩, .string ⟨#[]⟩, .string ⟨#[]⟩, .bool false, .slice none 0 0]) := (Blk.new w 79 [.string ⟨#[]⟩, .string ⟨#[]⟩, .string ⟨#[]⟩, .string ⟨#[]⟩, .bool false, .slice none 0 0]).on HB1.out) | (refine wpList_store_blk rfl 79 (.tmp 3) (.tmp 19) rfl _ rfl (famC (nm ++ ⟨#[95, 99, 114, 101, 97, 116, 101, 100]⟩) ⟨#[103, 97, 117, 103, 101]⟩ false (.slice none 0 0)) rfl _ (HR.out.alloc _) size79 rfl (famC_one _ _ _ _ _ _) ?_; intro w2 hR2 hg2))
  refine bodyPost_ret (results_cell_row Yba.results22 _ _ w.heap.size 79 _ (0, 0) _ rfl hR2.h Yba.underlying79 rfl size79) rfl ?_
  refine ⟨rfl, ?_⟩
  have b1 : Below w.heap.size w w1 := ((Below.refl _ w).alloc (Nat.le_refl _) _).trans (HB1.out.mono (by simp))
  exact (b1.alloc b1.size _).grown hg2 (by simp; have := b1.size; omega) (by rintro k ⟨⟩; exact Nat.le_refl _)
end Go.Proofs.Ybulkadpk
