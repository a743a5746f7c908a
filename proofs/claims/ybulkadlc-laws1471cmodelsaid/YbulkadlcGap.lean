import Derived.Test.YbulkadlcU64
import Derived.Shelf.Spec.BitsCarry
namespace Go.Proofs.Ybulkadlc
open Go.RowKit Go.QuietTail

theorem sub64 (x y b : Int) (hx : 0 ≤ x) (hy : 0 ≤ y) (hy' : y < 18446744073709551616) (hb0 : 0 ≤ b) (hb : b ≤ 1) (w : World) : (callFunc 38 #[.int .u64 x, .int .u64 y, .int .u64 b]).run Yba.prog w =
    .ok (.value (.tuple #[.int .u64 ((x - y - b) % 18446744073709551616), .int .u64 (if x < y + b then 1 else 0)])) w := by
  obtain ⟨x, rfl⟩ := Int.eq_ofNat_of_zero_le hx
  obtain ⟨y, rfl⟩ := Int.eq_ofNat_of_zero_le hy
  obtain ⟨b, rfl⟩ := Int.eq_ofNat_of_zero_le hb0
  rw [run_callFunc_extern Yba.func38 (by kernel_rfl) (by kernel_rfl) (by kernel_rfl) (e := sub64Entry) (by kernel_rfl), run_sub64 x y b (by omega)]
  have e1 : (((x + 18446744073709551616 - y - b) % 18446744073709551616 : Nat) : Int) = ((x : Int) - y - b) % 18446744073709551616 := by omega
  have e2 : ((if x < y + b then 1 else 0 : Nat) : Int) = if (x : Int) < y + b then 1 else 0 := by split <;> split <;> omega
  rw [← e1, ← e2]
  rfl

/-- The borrow, under a name. -/
def bor (x y : Int) : Int := if x < y then 1 else 0
theorem bor_cases (x y : Int) : bor x y = 0 ∨ bor x y = 1 := by unfold bor; split <;> simp
theorem sub64_0 (x y : Int) (hx : 0 ≤ x) (hy : 0 ≤ y) (hy' : y < 18446744073709551616) (w : World) : (callFunc 38 #[.int .u64 x, .int .u64 y, .int .u64 0]).run Yba.prog w =
    .ok (.value (.tuple #[.int .u64 ((x - y) % 18446744073709551616), .int .u64 (bor x y)])) w := by
  have := sub64 x y 0 hx hy hy' (Int.le_refl 0) (by decide) w
  rw [this]
  unfold bor
  simp
theorem sub64_b (x y b : Int) (hx : 0 ≤ x) (hy : 0 ≤ y) (hy' : y < 18446744073709551616) (hb0 : 0 ≤ b) (hb : b ≤ 1) (w : World) : (callFunc 38 #[.int .u64 x, .int .u64 y, .int .u64 b]).run Yba.prog w =
    .ok (.value (.tuple #[.int .u64 ((x - y - b) % 18446744073709551616), .int .u64 (bor x (y + b))])) w := sub64 x y b hx hy hy' hb0 hb w

theorem add64_any (x y c : Int) (hx : 0 ≤ x) (hx' : x < 18446744073709551616) (hy : 0 ≤ y) (hy' : y < 18446744073709551616) (hc0 : 0 ≤ c) (hc : c ≤ 1) (w : World) : ∃ s d : Int, (callFunc 22 #[.int .u64 x, .int .u64 y, .int .u64 c]).run Yba.prog w =
    .ok (.value (.tuple #[.int .u64 s, .int .u64 d])) w ∧ 0 ≤ s ∧ s < 18446744073709551616 ∧ 0 ≤ d ∧ d ≤ 1 := by
  obtain ⟨x, rfl⟩ := Int.eq_ofNat_of_zero_le hx
  obtain ⟨y, rfl⟩ := Int.eq_ofNat_of_zero_le hy
  obtain ⟨c, rfl⟩ := Int.eq_ofNat_of_zero_le hc0
  rw [run_callFunc_extern Yba.func22 (by kernel_rfl) (by kernel_rfl) (by kernel_rfl) (e := add64Entry) (by kernel_rfl), run_add64 x y c (by omega) (by omega) (by omega) (by omega)]
  simp only [Result.andThen]
  exact ⟨_, _, rfl, by omega, by omega, by omega, by omega⟩

/-- An ID: sixteen bytes. -/
def IdOk (d : List Int) : Prop := d.length = 16 ∧ ∀ x ∈ d, 0 ≤ x ∧ x ≤ 255
def cellsId (d : List Int) : List Value := d.map (Value.int .u8)
def idv (d : List Int) : Value := .agg (cellsId d).toArray
def hiOf (d : List Int) : Int := be8 (fun j => d.getD j 0)
def loOf (d : List Int) : Int := be8 (fun j => d.getD (8 + j) 0)

theorem IdOk.byte {d : List Int} (h : IdOk d) (j : Nat) : 0 ≤ d.getD j 0 ∧ d.getD j 0 ≤ 255 := by
  by_cases hj : j < d.length
  · rw [List.getD_eq_getElem?_getD, List.getElem?_eq_getElem hj]
    exact h.2 _ (List.getElem_mem hj)
  · rw [List.getD_eq_getElem?_getD, List.getElem?_eq_none (by omega)]
    simp

theorem be8_bd (b : Nat → Int) (h : ∀ j, 0 ≤ b j ∧ b j ≤ 255) : 0 ≤ be8 b ∧ be8 b < 18446744073709551616 := by
  unfold be8
  have := h 0; have := h 1; have := h 2; have := h 3; have := h 4; have := h 5; have := h 6; have := h 7
  omega
theorem IdOk.hi {d : List Int} (h : IdOk d) : 0 ≤ hiOf d ∧ hiOf d < 18446744073709551616 := be8_bd _ (fun j => h.byte j)
theorem IdOk.lo {d : List Int} (h : IdOk d) : 0 ≤ loOf d ∧ loOf d < 18446744073709551616 := be8_bd _ (fun j => h.byte (8 + j))

/-- A block that holds just an ID. -/
def Blk (w : World) (s : Nat) (d : List Int) : Prop := w.heap[s]? = some (.cells (cellsId d).toArray 23 (0, 0))
theorem Blk.new (w : World) (d : List Int) : Blk (w.alloc (.cells (cellsId d).toArray 23)) w.heap.size d := heap_alloc_new w _
theorem Blk.kept {w w' : World} {s : Nat} {d : List Int} {row : Option Nat} (h : Blk w s d) (hg : w.grownBy w' row) (hne : some s ≠ row) : Blk w' s d := by
  unfold Blk at *
  rw [hg.block s (Array.getElem?_eq_some_iff.1 h).1 hne]
  exact h
theorem Blk.later {w w' : World} {s : Nat} {d : List Int} (h : Blk w s d) (hb : Below w.heap.size w w') : Blk w' s d := by
  unfold Blk at *
  rw [hb.block s (Array.getElem?_eq_some_iff.1 h).1]
  exact h
theorem Blk.lt {w : World} {s : Nat} {d : List Int} (h : Blk w s d) : s < w.heap.size := (Array.getElem?_eq_some_iff.1 h).1
theorem Blk.alloc {w : World} {s : Nat} {d : List Int} (h : Blk w s d) (o : Obj) : Blk (w.alloc o) s d := h.later ((Below.refl _ _).alloc (Nat.le_refl _) _)
theorem info23 : (Yba.prog.info? 23).map (·.size) = some 16 := by kernel_rfl
theorem wpList_load_id {ops : Array Oper} {rest : List Oper} {o : Oper} {a : Act} {w : World} {Q : Exit → Act → World → Prop} (hgd : o.guard = none) (x : Operand) (ho : o.op = .load 23 x)
    (g : Nat) (hx : a.eval x = .pointer (some ⟨g, 0, none⟩)) (d : List Int) (hd : d.length = 16) (hg : Blk w g d)
    (h : wpList Yba.prog ops Q rest (a.put o.dst (.agg (cellsId d).toArray)) w) : wpList Yba.prog ops Q (o :: rest) a w :=
  wpList_load_row hgd 23 x ho g hx 23 (cellsId d).toArray (0, 0) _ hg Yba.underlying23 rfl (by rw [info23]; simp [cellsId, hd]) h

theorem cell_new_row (w : World) (cs : List Value) (t : TypeId) (j : Nat) : (w.alloc (.cells cs.toArray t)).cell? ⟨w.heap.size, j, none⟩ = cs[j]? := by
  rw [cell_of_row _ _ _ _ t (0, 0) (heap_alloc_new w _)]
  simp

theorem calls_later {W w : World} {f : FuncId} {args : Array Value} {v : Value} (h : Calls Yba.prog f args w fun e w' => e = .returned v ∧ Below W.heap.size W w') : Calls Yba.prog f args w fun e w' => e = .returned v ∧ ∃ q : Later W, w' = q.w :=
  h.mono fun _ _ ⟨he, hb⟩ => ⟨he, Later.ex hb⟩

theorem uint64_at (W : World) (g o n c : Nat) (b : Nat → Int) (w : World) (hx : Below W.heap.size W w) (hn : 8 ≤ n) (h : ∀ j, j < 8 → W.cell? ⟨g, o + j, none⟩ = some (.int .u8 (b j))) (hb : ∀ j, j < 8 → 0 ≤ b j ∧ b j ≤ 255) (hg : g < W.heap.size) :
    Calls Yba.prog 21 #[.agg #[], .slice (some ⟨g, o, none⟩) n c] w fun e w' => e = .returned (.int .u64 (be8 b)) ∧ Below W.heap.size W w' := by
  refine (uint64_any g o n c b w hn (fun j hj => by rw [hx.cell (p := ⟨g, o + j, none⟩) hg]; exact h j hj) hb (Nat.lt_of_lt_of_le hg hx.size)).mono ?_
  rintro e w' ⟨rfl, hb'⟩
  exact ⟨rfl, hx.trans (hb'.mono hx.size)⟩

theorem words_any (d : List Int) (hd : IdOk d) (w : World) :
    Calls Yba.prog 37 #[idv d] w fun e w' => e = .returned (.tuple #[.int .u64 (hiOf d), .int .u64 (loOf d)]) ∧ Below w.heap.size w w' := by
  have hB := (Below.refl w.heap.size w).alloc (Nat.le_refl _) (.cells (cellsId d).toArray 23)
  have hc : ∀ j, j < 16 → (w.alloc (.cells (cellsId d).toArray 23)).cell? ⟨w.heap.size, j, none⟩ = some (.int .u8 (d.getD j 0)) := fun j hj => by
    rw [cell_new_row]
    simp [cellsId, List.getD_eq_getElem?_getD, show j < d.length by rw [hd.1]; exact hj]
  have hz : w.heap.size < (w.alloc (.cells (cellsId d).toArray 23)).heap.size := by simp
  unfold idv
  go_enter Yba.func37, Yba.ntmps37
  go_wp2
  generalize hW : (w.alloc (.cells (cellsId d).toArray 23)) = W at *
  clear hW
  have hN : Nonempty (Later W) := ⟨⟨W, Below.refl _ _⟩⟩
  have hcl : ∀ j, j < 8 → W.cell? ⟨w.heap.size, 0 + j, none⟩ = some (.int .u8 (d.getD j 0)) := fun j hj => by rw [Nat.zero_add]; exact hc j (by omega)
  have hch : ∀ j, j < 8 → W.cell? ⟨w.heap.size, 8 + j, none⟩ = some (.int .u8 (d.getD (8 + j) 0)) := fun j hj => hc (8 + j) (by omega)
  clear hc
  refine wp_region_later (by kernel_rfl) (by kernel_rfl) ?_
  iterate 2 (go_big_quiet_step (fail))
  go_big_quiet_want
  go_big_quiet_op
  refine ⟨_, fun p => calls_later (uint64_at W w.heap.size 0 _ _ (fun j => d.getD j 0) _ p.h (by omega) hcl (fun j _ => hd.byte j) hz), ?_⟩
  go_big_quiet_on
  iterate 2 (go_big_quiet_step (fail))
  go_big_quiet_want
  go_big_quiet_op
  refine ⟨_, fun p => calls_later (uint64_at W w.heap.size 8 _ _ (fun j => d.getD (8 + j) 0) _ p.h (by omega) hch (fun j _ => hd.byte (8 + j)) hz), ?_⟩
  go_big_quiet_on
  iterate 2 (go_big_quiet_step (fail))
  refine wpQuiet_nil ?_
  intro w1 hw1
  obtain ⟨⟨w6, hb1⟩, rfl⟩ := hw1
  go_wp2
  go_ret2
  exact ⟨rfl, hB.trans (hb1.mono (Nat.le_of_lt hz))⟩

/-- The distance round the ring, its two halves. -/
def gapLo (a b : List Int) : Int := (loOf b - loOf a) % 18446744073709551616
def gapHi (a b : List Int) : Int := (hiOf b - hiOf a - bor (loOf b) (loOf a)) % 18446744073709551616

theorem gap_any (a b : List Int) (ha : IdOk a) (hb : IdOk b) (w : World) :
    Calls Yba.prog 26 #[idv a, idv b] w fun e w' => e = .returned (.tuple #[.int .u64 (gapHi a b), .int .u64 (gapLo a b)]) ∧ Below w.heap.size w w' := by
  have s0 := sub64_0 (loOf b) (loOf a) hb.lo.1 ha.lo.1 ha.lo.2
  have hbc := bor_cases (loOf b) (loOf a)
  have s1 := sub64_b (hiOf b) (hiOf a) (bor (loOf b) (loOf a)) hb.hi.1 ha.hi.1 ha.hi.2 (by omega) (by omega)
  clear hbc
  unfold gapHi gapLo idv
  have B1 := Blk.new w a
  have B2 := (Blk.new w a).alloc (.cells (cellsId b).toArray 23)
  have B3 := Blk.new (w.alloc (.cells (cellsId a).toArray 23)) b
  rw [World.size_alloc] at B3
  have hB := ((Below.refl w.heap.size w).alloc (Nat.le_refl _) (.cells (cellsId a).toArray 23)).alloc (by simp) (.cells (cellsId b).toArray 23)
  have hz : w.heap.size < ((w.alloc (.cells (cellsId a).toArray 23)).alloc (.cells (cellsId b).toArray 23)).heap.size := by simp; omega
  clear B1
  go_enter Yba.func26, Yba.ntmps26
  go_wp2_with (first | (refine wpList_load_id rfl (.tmp 2) rfl _ rfl a ha.1 B2 ?_))
  refine (words_any a ha _).mono ?_
  rintro e w1 ⟨rfl, hb1⟩
  have B4 := B3.later hb1
  go_wp2_with (first | (refine wpList_load_id rfl (.tmp 3) rfl _ rfl b hb.1 B4 ?_))
  refine (words_any b hb _).mono ?_
  rintro e w2 ⟨rfl, hb2⟩
  clear B2 B3 B4
  have HB : Hid (Below w.heap.size w w2) := (hB.trans (hb1.mono (Nat.le_of_lt hz))).trans (hb2.mono (Nat.le_trans (Nat.le_of_lt hz) hb1.size))
  clear hB hb1 hb2 hz
  go_wp2
  go_ret2
  exact ⟨rfl, HB.out⟩

/-! Len64 -/
def tab8 : ByteArray := ⟨#[0, 1, 2, 2, 3, 3, 3, 3, 4, 4, 4, 4, 4, 4, 4, 4, 5, 5, 5, 5, 5, 5, 5, 5, 5, 5, 5, 5, 5, 5, 5, 5, 6, 6, 6, 6, 6, 6, 6, 6, 6, 6, 6, 6, 6, 6, 6, 6, 6, 6, 6, 6, 6, 6, 6, 6, 6, 6, 6, 6, 6, 6, 6, 6, 7, 7, 7, 7, 7, 7, 7, 7, 7, 7, 7, 7, 7, 7, 7, 7, 7, 7, 7, 7, 7, 7, 7, 7, 7, 7, 7, 7, 7, 7, 7, 7, 7, 7, 7, 7, 7, 7, 7, 7, 7, 7, 7, 7, 7, 7, 7, 7, 7, 7, 7, 7, 7, 7, 7, 7, 7, 7, 7, 7, 7, 7, 7, 7, 8, 8, 8, 8, 8, 8, 8, 8, 8, 8, 8, 8, 8, 8, 8, 8, 8, 8, 8, 8, 8, 8, 8, 8, 8, 8, 8, 8, 8, 8, 8, 8, 8, 8, 8, 8, 8, 8, 8, 8, 8, 8, 8, 8, 8, 8, 8, 8, 8, 8, 8, 8, 8, 8, 8, 8, 8, 8, 8, 8, 8, 8, 8, 8, 8, 8, 8, 8, 8, 8, 8, 8, 8, 8, 8, 8, 8, 8, 8, 8, 8, 8, 8, 8, 8, 8, 8, 8, 8, 8, 8, 8, 8, 8, 8, 8, 8, 8, 8, 8, 8, 8, 8, 8, 8, 8, 8, 8, 8, 8, 8, 8, 8, 8, 8, 8, 8, 8, 8, 8, 8, 8, 8, 8, 8, 8, 8, 8]⟩
def blen (n : Nat) : Nat := if n = 0 then 0 else if n < 2 then 1 else if n < 4 then 2 else if n < 8 then 3 else if n < 16 then 4 else if n < 32 then 5 else if n < 64 then 6 else if n < 128 then 7 else 8
set_option maxRecDepth 100000 in
theorem tab8_all : ∀ n : Fin 256, (tab8.data.toList.getD n.val 0).toNat = blen n.val := by decide +kernel
set_option maxRecDepth 100000 in
theorem tab8_size : tab8.size = 256 := by decide +kernel
theorem tab8_get (n : Nat) (h : n < tab8.size) : (tab8[n]'h).toNat = blen n := by
  have h' : n < 256 := by rw [tab8_size] at h; exact h
  rw [← tab8_all ⟨n, h'⟩]
  have hl : n < tab8.data.toList.length := by simpa using h
  rw [List.getD_eq_getElem?_getD, List.getElem?_eq_getElem hl]
  rfl
def len64 (x : Int) : Int :=
  if 4294967296 ≤ x then
    (if 65536 ≤ x / 4294967296 then (if 256 ≤ x / 4294967296 / 65536 then 56 + blen (x / 4294967296 / 65536 / 256).toNat else 48 + blen (x / 4294967296 / 65536).toNat)
      else (if 256 ≤ x / 4294967296 then 40 + blen (x / 4294967296 / 256).toNat else 32 + blen (x / 4294967296).toNat))
  else
    (if 65536 ≤ x then (if 256 ≤ x / 65536 then 24 + blen (x / 65536 / 256).toNat else 16 + blen (x / 65536).toNat)
      else (if 256 ≤ x then 8 + blen (x / 256).toNat else blen x.toNat))
theorem blen_le (n : Nat) : blen n ≤ 8 := by unfold blen; repeat' (first | omega | split)
theorem blen_pos (n : Nat) (h : 0 < n) : 1 ≤ blen n := by unfold blen; repeat' (first | omega | split)
theorem len64_bd (x : Int) (h0 : 0 < x) (h1 : x < 18446744073709551616) : 1 ≤ len64 x ∧ len64 x ≤ 64 := by
  have key : ∀ y : Int, 0 < y → 1 ≤ (blen y.toNat : Int) ∧ (blen y.toNat : Int) ≤ 8 := fun y hy => by
    have := blen_le y.toNat
    have := blen_pos y.toNat (by omega)
    omega
  unfold len64
  repeat' split
  · have := key (x / 4294967296 / 65536 / 256) (by omega); omega
  · have := key (x / 4294967296 / 65536) (by omega); omega
  · have := key (x / 4294967296 / 256) (by omega); omega
  · have := key (x / 4294967296) (by omega); omega
  · have := key (x / 65536 / 256) (by omega); omega
  · have := key (x / 65536) (by omega); omega
  · have := key (x / 256) (by omega); omega
  · have := key x (by omega); omega
theorem len_fin (c y : Int) (h : y.toNat < tab8.size) (z : Int) (hc0 : 0 ≤ c) (hc1 : c ≤ 56) (hz : z = c + (blen y.toNat : Int)) : wrap64 (c + wrap64 (((tab8[y.toNat]'h).toNat : Nat) : Int)) = z := by
  rw [tab8_get]
  have := blen_le y.toNat
  unfold wrap64
  omega
theorem len_fin0 (y : Int) (h : y.toNat < tab8.size) (z : Int) (hz : z = (blen y.toNat : Int)) : wrap64 (wrap64 (((tab8[y.toNat]'h).toNat : Nat) : Int)) = z := by
  rw [tab8_get]
  have := blen_le y.toNat
  unfold wrap64
  omega
set_option maxRecDepth 100000 in
set_option maxHeartbeats 1000000 in
theorem len64_any (x : Int) (w : World) (h0 : 0 ≤ x) (h1 : x < 18446744073709551616) :
    Calls Yba.prog 27 #[.int .u64 x] w fun e w' => e = .returned (.int .i64 (len64 x)) ∧ w' = w := by
  go_enter Yba.func27, Yba.ntmps27
  go_wp2
  all_goals go_ret
  all_goals refine ⟨?_, rfl⟩
  all_goals refine congrArg (fun z => Ending.returned (Value.int IntKind.i64 z)) ?_
  · refine len_fin 56 _ _ _ (by omega) (by omega) ?_
    unfold len64; rw [if_pos (by assumption), if_pos (by assumption), if_pos (by assumption)]
  · refine len_fin 48 _ _ _ (by omega) (by omega) ?_
    unfold len64; rw [if_pos (by assumption), if_pos (by assumption), if_neg (by omega)]
  · refine len_fin 40 _ _ _ (by omega) (by omega) ?_
    unfold len64; rw [if_pos (by assumption), if_neg (by omega), if_pos (by assumption)]
  · refine len_fin 32 _ _ _ (by omega) (by omega) ?_
    unfold len64; rw [if_pos (by assumption), if_neg (by omega), if_neg (by omega)]
  · refine len_fin 24 _ _ _ (by omega) (by omega) ?_
    unfold len64; rw [if_neg (by omega), if_pos (by assumption), if_pos (by assumption)]
  · refine len_fin 16 _ _ _ (by omega) (by omega) ?_
    unfold len64; rw [if_neg (by omega), if_pos (by assumption), if_neg (by omega)]
  · refine len_fin 8 _ _ _ (by omega) (by omega) ?_
    unfold len64; rw [if_neg (by omega), if_neg (by omega), if_pos (by assumption)]
  · refine len_fin0 _ _ _ ?_
    unfold len64; rw [if_neg (by omega), if_neg (by omega), if_neg (by omega)]
end Go.Proofs.Ybulkadlc
