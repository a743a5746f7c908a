import Derived.Test.YbulkadlcCopy
import Derived.Deep.MidRow
namespace Go.Proofs.Ybulkadlc
open Go.RowKit Go.QuietTail
set_option linter.unusedVariables false
set_option linter.unusedSimpArgs false

def zero16 : List Int := [0, 0, 0, 0, 0, 0, 0, 0, 0, 0, 0, 0, 0, 0, 0, 0]
theorem u64_bd (n : Int) : 0 ≤ IntKind.u64.wrap n ∧ IntKind.u64.wrap n < 18446744073709551616 := by
  simp [IntKind.wrap, IntKind.bits, IntKind.signed]; omega
theorem put8_len (d : List Int) (o : Nat) (v : Int) : (put8 d o v).length = d.length := by simp [put8]
theorem zero16_ok : IdOk zero16 := by
  refine ⟨rfl, ?_⟩
  intro x hx
  simp [zero16] at hx
  omega
theorem set_ok {d : List Int} (h : IdOk d) (o : Nat) (v : Int) (h0 : 0 ≤ v) (h1 : v ≤ 255) : IdOk (d.set o v) := by
  refine ⟨by simp [h.1], fun x hx => ?_⟩
  rcases List.mem_or_eq_of_mem_set hx with hx | rfl
  · exact h.2 x hx
  · exact ⟨h0, h1⟩
theorem put8_ok {d : List Int} (h : IdOk d) (o : Nat) (v : Int) (h0 : 0 ≤ v) (h1 : v < 18446744073709551616) : IdOk (put8 d o v) := by
  unfold put8
  refine set_ok (set_ok (set_ok (set_ok (set_ok (set_ok (set_ok (set_ok h _ _ ?_ ?_) _ _ ?_ ?_) _ _ ?_ ?_) _ _ ?_ ?_) _ _ ?_ ?_) _ _ ?_ ?_) _ _ ?_ ?_) _ _ ?_ ?_ <;> omega
theorem cellsId_one (d : List Int) : ∀ v ∈ cellsId d, v.oneCell' = true := by
  intro v hv
  simp only [cellsId, List.mem_map] at hv
  obtain ⟨x, _, rfl⟩ := hv
  rfl
theorem wpList_store_id {ops : Array Oper} {rest : List Oper} {o : Oper} {a : Act} {w : World} {Q : Exit → Act → World → Prop} (hgd : o.guard = none) (x y : Operand) (ho : o.op = .store 23 x y)
    (g : Nat) (hx : a.eval x = .pointer (some ⟨g, 0, none⟩)) (d : List Int) (hd : d.length = 16) (hy : a.eval y = .agg (cellsId d).toArray) (d0 : List Int) (hd0 : d0.length = 16) (hg : Blk w g d0)
    (h : ∀ w', Blk w' g d → w.grownBy w' (some g) → wpList Yba.prog ops Q rest (a.put o.dst undef) w') : wpList Yba.prog ops Q (o :: rest) a w :=
  wpList_store_row hgd 23 x y ho g (cellsId d).toArray hx hy 23 (cellsId d0).toArray hg (by rw [info23]; simp [cellsId, hd]) (by simp [cellsId, hd, hd0]) (all_oneCell_toArray (cellsId_one d))
    (h _ (setRow_heap w g _ _ 23 _ hg) (grownBy_setRow _ _ _))
set_option maxHeartbeats 4000000 in
set_option maxRecDepth 100000 in
theorem bpeer_any (a : List Int) (i off : Int) (ha : IdOk a) (hi0 : 1 ≤ i) (hi1 : i ≤ 128) (ho0 : 0 ≤ off) (ho1 : off < 18446744073709551616) (w : World) :
    Calls Yba.prog 7 #[idv a, .int .i64 i, .int .u64 off] w fun e w' => (∃ d, IdOk d ∧ e = .returned (idv d)) ∧ Below w.heap.size w w' := by
  unfold idv
  by_cases hp : 64 ≤ 128 - i
  · go_enter Yba.func7, Yba.ntmps7
    go_wp2
    obtain ⟨h0, h1⟩ := u64_bd (2 ^ (128 - i - 64).toNat)
    generalize IntKind.u64.wrap (2 ^ (128 - i - 64).toNat) = aH at *
    obtain ⟨aL, hL⟩ : ∃ aL, aL = off := ⟨_, rfl⟩
    have l0 : 0 ≤ aL := by omega
    have l1 : aL < 18446744073709551616 := by omega
    rw [← hL]
    clear hL
    have hB0 : Below w.heap.size w ((w.alloc (.cells (cellsId a).toArray 23)).alloc (.cells (cellsId zero16).toArray 23)) := ((Below.refl _ w).alloc (Nat.le_refl _) _).alloc (by simp) _
    have hA0 : Blk ((w.alloc (.cells (cellsId a).toArray 23)).alloc (.cells (cellsId zero16).toArray 23)) w.heap.size a := (Blk.new w a).alloc _
    have hR0 : Blk ((w.alloc (.cells (cellsId a).toArray 23)).alloc (.cells (cellsId zero16).toArray 23)) (w.heap.size + 1) zero16 := by have := Blk.new (w.alloc (.cells (cellsId a).toArray 23)) zero16; simpa using this
    change Code.wp _ _ _ _ ((w.alloc (.cells (cellsId a).toArray 23)).alloc (.cells (cellsId zero16).toArray 23))
    generalize (w.alloc (.cells (cellsId a).toArray 23)).alloc (.cells (cellsId zero16).toArray 23) = W at *
    have hN : Nonempty (Later W) := ⟨⟨W, Below.refl _ _⟩⟩
    have hcl : ∀ j, j < 8 → W.cell? ⟨w.heap.size, 0 + j, none⟩ = some (.int .u8 (a.getD j 0)) := fun j hj => by rw [Nat.zero_add]; exact hA0.cell j (by rw [ha.1]; omega)
    have hz : w.heap.size < W.heap.size := hA0.lt
    refine wp_region_later (by kernel_rfl) (by kernel_rfl) ?_
    iterate 2 (go_big_quiet_step (fail))
    go_big_quiet_want
    go_big_quiet_op
    refine ⟨_, fun p => calls_later (uint64_at W w.heap.size 0 _ _ (fun j => a.getD j 0) _ p.h (by omega) hcl (fun j _ => ha.byte j) hz), ?_⟩
    go_big_quiet_on
    iterate 1 (go_big_quiet_step (fail))
    refine wpQuiet_nil ?_
    intro wx1 hw1
    obtain ⟨⟨_, hb1⟩, rfl⟩ := hw1
    have hB1 := hB0.trans (hb1.mono (Nat.le_of_lt hz))
    have hA1 := hA0.later hb1
    have hR1 := hR0.later hb1
    clear hB0 hA0 hR0 hcl hN hb1 hz
    go_wp2
    have hN : Nonempty (Later wx1) := ⟨⟨wx1, Below.refl _ _⟩⟩
    have hcl : ∀ j, j < 8 → wx1.cell? ⟨w.heap.size, 8 + j, none⟩ = some (.int .u8 (a.getD (8 + j) 0)) := fun j hj => hA1.cell (8 + j) (by rw [ha.1]; omega)
    have hz : w.heap.size < wx1.heap.size := hA1.lt
    refine wp_region_later (by kernel_rfl) (by kernel_rfl) ?_
    iterate 2 (go_big_quiet_step (fail))
    go_big_quiet_want
    go_big_quiet_op
    refine ⟨_, fun p => calls_later (uint64_at wx1 w.heap.size 8 _ _ (fun j => a.getD (8 + j) 0) _ p.h (by omega) hcl (fun j _ => ha.byte (8 + j)) hz), ?_⟩
    go_big_quiet_on
    iterate 1 (go_big_quiet_step (fail))
    refine wpQuiet_nil ?_
    intro wx2 hw2
    obtain ⟨⟨_, hb2⟩, rfl⟩ := hw2
    have B7 : Hid (Below w.heap.size w wx2) := hB1.trans (hb2.mono (Nat.le_of_lt hz))
    have R7 : Hid (Blk wx2 (w.heap.size + 1) zero16) := hR1.later hb2
    clear hB1 hA1 hR1 hcl hN hb2 hz
    have hlo := be8_bd (fun j => a.getD (8 + j) 0) (fun j => ha.byte (8 + j))
    have hhi := be8_bd (fun j => a.getD j 0) (fun j => ha.byte j)
    generalize be8 (fun j => a.getD (8 + j) 0) = lo at *
    generalize be8 (fun j => a.getD j 0) = hi at *
    obtain ⟨s1, d1, e1, q1, q2, q3, q4⟩ := add64_any lo aL 0 hlo.1 hlo.2 l0 l1 (Int.le_refl 0) (by decide) wx2
    obtain ⟨s2, d2, e2, q5, q6, q7, q8⟩ := add64_any hi aH d1 hhi.1 hhi.2 h0 h1 q3 q4 wx2
    go_wp2
    have hsz : wx2.heap.size < (wx2.alloc (.cells (cellsId zero16).toArray 23)).heap.size := by simp
    have hZ : Blk (wx2.alloc (.cells (cellsId zero16).toArray 23)) wx2.heap.size zero16 := Blk.new _ _
    have hRR : Blk (wx2.alloc (.cells (cellsId zero16).toArray 23)) (w.heap.size + 1) zero16 := R7.out.alloc _
    have hBB : Below w.heap.size w (wx2.alloc (.cells (cellsId zero16).toArray 23)) := B7.out.alloc B7.out.size _
    have hne : w.heap.size + 1 < wx2.heap.size := R7.out.lt
    change Code.wp _ _ _ _ (wx2.alloc (.cells (cellsId zero16).toArray 23))
    generalize wx2.heap.size = Z at *
    generalize wx2.alloc (.cells (cellsId zero16).toArray 23) = W2 at *
    clear e1 e2
    refine wp_region_drew_tail 3 (by kernel_rfl) (by kernel_rfl) ?_
    simp only [List.take_succ_cons, List.take_zero, List.drop_succ_cons, List.drop_zero]
    iterate 3 (go_big_quiet_step (fail))
    refine wpQuiet_nil ?_
    intro w3 hw3
    obtain ⟨n3, rfl⟩ := hw3
    go_wp2_with fail
    refine (put64_any Z 0 _ _ zero16 s2 (W2.drewN n3) hZ rfl (by omega) (by omega) q5 q6).mono ?_
    rintro e w4 ⟨rfl, hZ4, hg4⟩
    have hR4 := (show Blk (W2.drewN n3) (w.heap.size + 1) zero16 from hRR).kept hg4 (by simp; omega)
    have hB4 := (below_drewN hBB n3).grown hg4 (by have := hBB.size; simpa using this) (by rintro k ⟨⟩; omega)
    clear hRR hBB hZ hg4
    go_wp2
    refine wp_region_drew_tail 3 (by kernel_rfl) (by kernel_rfl) ?_
    simp only [List.take_succ_cons, List.take_zero, List.drop_succ_cons, List.drop_zero]
    iterate 3 (go_big_quiet_step (fail))
    refine wpQuiet_nil ?_
    intro w5 hw5
    obtain ⟨n5, rfl⟩ := hw5
    go_wp2_with fail
    refine (put64_any Z 8 _ _ (put8 zero16 0 s2) s1 (w4.drewN n5) hZ4 (by rw [put8_len]; rfl) (by omega) (by omega) q1 q2).mono ?_
    rintro e w6 ⟨rfl, hZ6, hg6⟩
    have hR6 := (show Blk (w4.drewN n5) (w.heap.size + 1) zero16 from hR4).kept hg6 (by simp; omega)
    have hB6 := (below_drewN hB4 n5).grown hg6 (by have := hB4.size; simpa using this) (by rintro k ⟨⟩; omega)
    clear hR4 hB4 hZ4 hg6
    have hd : IdOk (put8 (put8 zero16 0 s2) 8 s1) := put8_ok (put8_ok zero16_ok 0 s2 q5 q6) 8 s1 q1 q2
    generalize put8 (put8 zero16 0 s2) 8 s1 = d at *
    go_wp2_with (first | (refine wpList_load_id rfl (.tmp 16) rfl _ rfl d hd.1 hZ6 ?_) | (refine wpList_store_id rfl (.tmp 6) (.tmp 61) rfl _ rfl d hd.1 rfl zero16 rfl hR6 ?_; intro w7 hR7 hg7))
    refine bodyPost_ret (v := idv d) (results_cell_row Yba.results7 _ _ (w.heap.size + 1) 23 _ (0, 0) _ rfl hR7 Yba.underlying23 rfl (by rw [info23]; simp [cellsId, hd.1])) rfl ?_
    exact ⟨⟨d, hd, rfl⟩, hB6.grown hg7 hB6.size (by rintro k ⟨⟩; omega)⟩
  · go_enter Yba.func7, Yba.ntmps7
    go_wp2
    obtain ⟨l0, l1⟩ := u64_bd (IntKind.u64.wrap (2 ^ (128 - i).toNat) + bits BinOp.and IntKind.u64 off (IntKind.u64.wrap (IntKind.u64.wrap (2 ^ (128 - i).toNat) - 1)))
    generalize IntKind.u64.wrap (IntKind.u64.wrap (2 ^ (128 - i).toNat) + bits BinOp.and IntKind.u64 off (IntKind.u64.wrap (IntKind.u64.wrap (2 ^ (128 - i).toNat) - 1))) = aL at *
    have h0 : (0 : Int) ≤ 0 := Int.le_refl 0
    have h1 : (0 : Int) < 18446744073709551616 := by decide
    have hB0 : Below w.heap.size w ((w.alloc (.cells (cellsId a).toArray 23)).alloc (.cells (cellsId zero16).toArray 23)) := ((Below.refl _ w).alloc (Nat.le_refl _) _).alloc (by simp) _
    have hA0 : Blk ((w.alloc (.cells (cellsId a).toArray 23)).alloc (.cells (cellsId zero16).toArray 23)) w.heap.size a := (Blk.new w a).alloc _
    have hR0 : Blk ((w.alloc (.cells (cellsId a).toArray 23)).alloc (.cells (cellsId zero16).toArray 23)) (w.heap.size + 1) zero16 := by have := Blk.new (w.alloc (.cells (cellsId a).toArray 23)) zero16; simpa using this
    change Code.wp _ _ _ _ ((w.alloc (.cells (cellsId a).toArray 23)).alloc (.cells (cellsId zero16).toArray 23))
    generalize (w.alloc (.cells (cellsId a).toArray 23)).alloc (.cells (cellsId zero16).toArray 23) = W at *
    have hN : Nonempty (Later W) := ⟨⟨W, Below.refl _ _⟩⟩
    have hcl : ∀ j, j < 8 → W.cell? ⟨w.heap.size, 0 + j, none⟩ = some (.int .u8 (a.getD j 0)) := fun j hj => by rw [Nat.zero_add]; exact hA0.cell j (by rw [ha.1]; omega)
    have hz : w.heap.size < W.heap.size := hA0.lt
    refine wp_region_later (by kernel_rfl) (by kernel_rfl) ?_
    iterate 2 (go_big_quiet_step (fail))
    go_big_quiet_want
    go_big_quiet_op
    refine ⟨_, fun p => calls_later (uint64_at W w.heap.size 0 _ _ (fun j => a.getD j 0) _ p.h (by omega) hcl (fun j _ => ha.byte j) hz), ?_⟩
    go_big_quiet_on
    iterate 1 (go_big_quiet_step (fail))
    refine wpQuiet_nil ?_
    intro wx1 hw1
    obtain ⟨⟨_, hb1⟩, rfl⟩ := hw1
    have hB1 := hB0.trans (hb1.mono (Nat.le_of_lt hz))
    have hA1 := hA0.later hb1
    have hR1 := hR0.later hb1
    clear hB0 hA0 hR0 hcl hN hb1 hz
    go_wp2
    have hN : Nonempty (Later wx1) := ⟨⟨wx1, Below.refl _ _⟩⟩
    have hcl : ∀ j, j < 8 → wx1.cell? ⟨w.heap.size, 8 + j, none⟩ = some (.int .u8 (a.getD (8 + j) 0)) := fun j hj => hA1.cell (8 + j) (by rw [ha.1]; omega)
    have hz : w.heap.size < wx1.heap.size := hA1.lt
    refine wp_region_later (by kernel_rfl) (by kernel_rfl) ?_
    iterate 2 (go_big_quiet_step (fail))
    go_big_quiet_want
    go_big_quiet_op
    refine ⟨_, fun p => calls_later (uint64_at wx1 w.heap.size 8 _ _ (fun j => a.getD (8 + j) 0) _ p.h (by omega) hcl (fun j _ => ha.byte (8 + j)) hz), ?_⟩
    go_big_quiet_on
    iterate 1 (go_big_quiet_step (fail))
    refine wpQuiet_nil ?_
    intro wx2 hw2
    obtain ⟨⟨_, hb2⟩, rfl⟩ := hw2
    have B7 : Hid (Below w.heap.size w wx2) := hB1.trans (hb2.mono (Nat.le_of_lt hz))
    have R7 : Hid (Blk wx2 (w.heap.size + 1) zero16) := hR1.later hb2
    clear hB1 hA1 hR1 hcl hN hb2 hz
    have hlo := be8_bd (fun j => a.getD (8 + j) 0) (fun j => ha.byte (8 + j))
    have hhi := be8_bd (fun j => a.getD j 0) (fun j => ha.byte j)
    generalize be8 (fun j => a.getD (8 + j) 0) = lo at *
    generalize be8 (fun j => a.getD j 0) = hi at *
    obtain ⟨s1, d1, e1, q1, q2, q3, q4⟩ := add64_any lo aL 0 hlo.1 hlo.2 l0 l1 (Int.le_refl 0) (by decide) wx2
    obtain ⟨s2, d2, e2, q5, q6, q7, q8⟩ := add64_any hi 0 d1 hhi.1 hhi.2 h0 h1 q3 q4 wx2
    go_wp2
    have hsz : wx2.heap.size < (wx2.alloc (.cells (cellsId zero16).toArray 23)).heap.size := by simp
    have hZ : Blk (wx2.alloc (.cells (cellsId zero16).toArray 23)) wx2.heap.size zero16 := Blk.new _ _
    have hRR : Blk (wx2.alloc (.cells (cellsId zero16).toArray 23)) (w.heap.size + 1) zero16 := R7.out.alloc _
    have hBB : Below w.heap.size w (wx2.alloc (.cells (cellsId zero16).toArray 23)) := B7.out.alloc B7.out.size _
    have hne : w.heap.size + 1 < wx2.heap.size := R7.out.lt
    change Code.wp _ _ _ _ (wx2.alloc (.cells (cellsId zero16).toArray 23))
    generalize wx2.heap.size = Z at *
    generalize wx2.alloc (.cells (cellsId zero16).toArray 23) = W2 at *
    clear e1 e2
    refine wp_region_drew_tail 3 (by kernel_rfl) (by kernel_rfl) ?_
    simp only [List.take_succ_cons, List.take_zero, List.drop_succ_cons, List.drop_zero]
    iterate 3 (go_big_quiet_step (fail))
    refine wpQuiet_nil ?_
    intro w3 hw3
    obtain ⟨n3, rfl⟩ := hw3
    go_wp2_with fail
    refine (put64_any Z 0 _ _ zero16 s2 (W2.drewN n3) hZ rfl (by omega) (by omega) q5 q6).mono ?_
    rintro e w4 ⟨rfl, hZ4, hg4⟩
    have hR4 := (show Blk (W2.drewN n3) (w.heap.size + 1) zero16 from hRR).kept hg4 (by simp; omega)
    have hB4 := (below_drewN hBB n3).grown hg4 (by have := hBB.size; simpa using this) (by rintro k ⟨⟩; omega)
    clear hRR hBB hZ hg4
    go_wp2
    refine wp_region_drew_tail 3 (by kernel_rfl) (by kernel_rfl) ?_
    simp only [List.take_succ_cons, List.take_zero, List.drop_succ_cons, List.drop_zero]
    iterate 3 (go_big_quiet_step (fail))
    refine wpQuiet_nil ?_
    intro w5 hw5
    obtain ⟨n5, rfl⟩ := hw5
    go_wp2_with fail
    refine (put64_any Z 8 _ _ (put8 zero16 0 s2) s1 (w4.drewN n5) hZ4 (by rw [put8_len]; rfl) (by omega) (by omega) q1 q2).mono ?_
    rintro e w6 ⟨rfl, hZ6, hg6⟩
    have hR6 := (show Blk (w4.drewN n5) (w.heap.size + 1) zero16 from hR4).kept hg6 (by simp; omega)
    have hB6 := (below_drewN hB4 n5).grown hg6 (by have := hB4.size; simpa using this) (by rintro k ⟨⟩; omega)
    clear hR4 hB4 hZ4 hg6
    have hd : IdOk (put8 (put8 zero16 0 s2) 8 s1) := put8_ok (put8_ok zero16_ok 0 s2 q5 q6) 8 s1 q1 q2
    generalize put8 (put8 zero16 0 s2) 8 s1 = d at *
    go_wp2_with (first | (refine wpList_load_id rfl (.tmp 16) rfl _ rfl d hd.1 hZ6 ?_) | (refine wpList_store_id rfl (.tmp 6) (.tmp 61) rfl _ rfl d hd.1 rfl zero16 rfl hR6 ?_; intro w7 hR7 hg7))
    refine bodyPost_ret (v := idv d) (results_cell_row Yba.results7 _ _ (w.heap.size + 1) 23 _ (0, 0) _ rfl hR7 Yba.underlying23 rfl (by rw [info23]; simp [cellsId, hd.1])) rfl ?_
    exact ⟨⟨d, hd, rfl⟩, hB6.grown hg7 hB6.size (by rintro k ⟨⟩; omega)⟩
end Go.Proofs.Ybulkadlc
