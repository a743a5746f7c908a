import Derived.Test.YbulkadlcRem
import Derived.Test.YbulkadlcWrd
namespace Go.Proofs.Ybulkadlc
open Go.RowKit Go.QuietTail
set_option linter.unusedVariables false
set_option linter.unusedSimpArgs false

theorem info30 : (Yba.prog.info? 30).map (·.size) = some 18 := by kernel_rfl
def ntC (me : List Int) (vp vs : Value) : List Value := cellsId me ++ [vp, vs]
theorem NT.row {w : World} {N : Nat} {me : List Int} {vp vs : Value} (h : NT w N me vp vs) : w.rangeAt N 0 (ntC me vp vs) := fun j v hv => by
  rw [cell_of_row w N (0 + j) _ 30 (0, 0) h]
  simpa [ntC] using hv
theorem nt_len {me : List Int} (hm : me.length = 16) (vp vs : Value) : (ntC me vp vs).length = 18 := by simp [ntC, cellsId, hm]
theorem nt_one (me : List Int) (p1 p2 : Option Addr) (n1 c1 n2 c2 : Nat) : ∀ v ∈ ntC me (.slice p1 n1 c1) (.slice p2 n2 c2), v.oneCell' = true := by
  intro v hv
  unfold ntC at hv
  rcases List.mem_append.1 hv with h | h
  · exact cellsId_one me v h
  · simp at h
    rcases h with rfl | rfl <;> rfl
theorem wpList_store_nt {ops : Array Oper} {rest : List Oper} {o : Oper} {a : Act} {w : World} {Q : Exit → Act → World → Prop} (hgd : o.guard = none) (x y : Operand) (ho : o.op = .store 30 x y)
    (g : Nat) (hx : a.eval x = .pointer (some ⟨g, 0, none⟩)) (me : List Int) (hm : me.length = 16) (p1 p2 : Option Addr) (n1 c1 n2 c2 : Nat) (hy : a.eval y = .agg (ntC me (.slice p1 n1 c1) (.slice p2 n2 c2)).toArray) (m0 : List Int) (hm0 : m0.length = 16) (v0 u0 : Value) (hg : NT w g m0 v0 u0)
    (h : ∀ w', NT w' g me (.slice p1 n1 c1) (.slice p2 n2 c2) → w.grownBy w' (some g) → wpList Yba.prog ops Q rest (a.put o.dst undef) w') : wpList Yba.prog ops Q (o :: rest) a w :=
  wpList_store_row hgd 30 x y ho g (ntC me (.slice p1 n1 c1) (.slice p2 n2 c2)).toArray hx hy 30 (ntC m0 v0 u0).toArray hg (by rw [info30]; simp [nt_len hm]) (by simp [nt_len hm, nt_len hm0]) (all_oneCell_toArray (nt_one me p1 p2 n1 c1 n2 c2))
    (h _ (setRow_heap w g _ _ 30 _ hg) (grownBy_setRow _ _ _))
theorem NT.new (w : World) (me : List Int) (vp vs : Value) : NT (w.alloc (.cells (cellsId me ++ [vp, vs]).toArray 30)) w.heap.size me vp vs := heap_alloc_new w _

set_option maxHeartbeats 1000000 in
theorem belongs_any (N : Nat) (me d : List Int) (p s : List (List Int)) (hm : IdOk me) (hd : IdOk d) (w : World) (h : TI w N me p s 0) :
    Calls Yba.prog 15 #[.pointer (some ⟨N, 0, none⟩), idv d] w fun e w' => (∃ p' s', (d = me ∧ e = .returned (.bool false)) ∨ (d ≠ me ∧ Near (kd me false) (peersL p s ++ [d]) p' ∧ Near (kd me true) (peersL p s ++ [d]) s' ∧ e = .returned (.bool (!decide (p' = p) || !decide (s' = s))))) ∧ Below w.heap.size w w' := by
  obtain ⟨⟨vp, vs, hN, hP, hS, _, _⟩, hp, hs, hnear⟩ := h
  have HB1 : Hid (Blk (w.alloc (.cells (cellsId d).toArray 23)) w.heap.size d) := Blk.new w d
  have HL1 : Hid (Below w.heap.size w (w.alloc (.cells (cellsId d).toArray 23))) := (Below.refl _ w).alloc (Nat.le_refl _) _
  obtain ⟨p1, c1, e1, hP2⟩ := id hP
  obtain ⟨p2, c2, e2, hS2⟩ := id hS
  subst e1
  subst e2
  have HN : Hid (NT (w.alloc (.cells (cellsId d).toArray 23)) N me (.slice p1 p.length c1) (.slice p2 s.length c2)) := hN.later HL1.out
  have HP : Hid (IdsR w (.slice p1 p.length c1) p) := hP
  have HS : Hid (IdsR w (.slice p2 s.length c2) s) := hS
  have HX : Hid (∃ X, Near (kd me false) X p ∧ Near (kd me true) X s) := hnear
  have HNZ : Hid (NT ((w.alloc (.cells (cellsId d).toArray 23)).alloc (.cells (ntC zero16 (.slice none 0 0) (.slice none 0 0)).toArray 30)) (w.heap.size + 1) zero16 (.slice none 0 0) (.slice none 0 0)) := by
    have := NT.new (w.alloc (.cells (cellsId d).toArray 23)) zero16 (.slice none 0 0) (.slice none 0 0)
    rw [World.size_alloc] at this
    exact this
  generalize p.length = np at *
  generalize s.length = ns at *
  clear hN hP hS hP2 hS2 hnear
  unfold idv
  go_enter Yba.func15, Yba.ntmps15
  go_wp2_with (first | (refine wpList_load_mid rfl 30 (.tmp 7) rfl _ _ rfl (ntC me (.slice p1 np c1) (.slice p2 ns c2)) _ HN.out.row Yba.underlying30 rfl (by rw [info30, nt_len hm.1]) ?_) | (refine wpList_store_nt rfl (.tmp 5) (.tmp 8) rfl _ rfl me hm.1 p1 p2 np c1 ns c2 rfl zero16 rfl (.slice none 0 0) (.slice none 0 0) HNZ.out ?_; intro w2 hN2 hg2; have L2 : Below w.heap.size w w2 := (HL1.out.alloc HL1.out.size _).grown hg2 (by simp <;> omega) (by rintro k ⟨⟩; omega); have HN2 : Hid (NT w2 (w.heap.size + 1) me (.slice p1 np c1) (.slice p2 ns c2)) := hN2; have HL2 : Hid (Below w.heap.size w w2) := L2; have HB2 : Hid (Blk w2 w.heap.size d) := (HB1.out.alloc _).kept hg2 (by simp <;> omega); clear hN2 hg2 L2) | (refine wpList_load_id rfl (.tmp 3) rfl _ rfl d hd.1 HB2.out ?_))
  refine (add_any _ me d p s hm hd w2 0 (Nat.zero_le _) ⟨⟨_, _, HN2.out, HP.out.later HL2.out, HS.out.later HL2.out, fun _ _ _ _ _ => Nat.zero_le _, fun _ _ _ _ _ => Nat.zero_le _⟩, hp, hs, HX.out⟩).mono ?_
  rintro e w3 ⟨⟨p', s', _, hcase⟩, hg3⟩
  have HL3 : Hid (Below w.heap.size w w3) := HL2.out.grown hg3 HL2.out.size (by rintro k ⟨⟩; omega)
  clear hg3
  rcases hcase with ⟨h1, rfl, _, _⟩ | ⟨h1, h2, h3, rfl⟩
  · have HC : Hid (d = me) := h1
    clear h1
    go_wp2
    go_ret
    exact ⟨⟨p', s', .inl ⟨HC.out, rfl⟩⟩, HL3.out⟩
  · have HC : Hid (d ≠ me ∧ Near (kd me false) (peersL p s ++ [d]) p' ∧ Near (kd me true) (peersL p s ++ [d]) s') := ⟨h1, h2, h3⟩
    clear h1 h2 h3
    go_wp2
    go_ret
    exact ⟨⟨p', s', .inr ⟨HC.out.1, HC.out.2.1, HC.out.2.2, rfl⟩⟩, HL3.out⟩

/-! build -/
theorem built30 (d : List Int) (hd : d.length = 16) : Yba.prog.built 30 [(0, .agg (cellsId d).toArray)] = some (ntC d (.slice none 0 0) (.slice none 0 0)).toArray := by
  obtain ⟨d0, d1, d2, d3, d4, d5, d6, d7, d8, d9, d10, d11, d12, d13, d14, d15, rfl⟩ := list16 d hd
  kernel_rfl
theorem wpList_b30 {ops : Array Oper} {rest : List Oper} {o : Oper} {a : Act} {w : World} {Q : Exit → Act → World → Prop} (hg : o.guard = none) (x : Operand) (ho : o.op = .build 30 #[(0, x)]) (d : List Int) (hd : d.length = 16) (hx : a.eval x = .agg (cellsId d).toArray)
    (h : wpList Yba.prog ops Q rest (a.put o.dst (.agg (ntC d (.slice none 0 0) (.slice none 0 0)).toArray)) w) : wpList Yba.prog ops Q (o :: rest) a w := by
  refine wpList_buildTo hg 30 #[(0, x)] ho o.dst rfl _ ?_ h
  simp only [List.map_toArray, List.map_cons, List.map_nil, hx]
  exact built30 d hd
/-- The script. -/
structure Stp where
  hi : Int
  lo : Int
  rm : Bool
def StOk (z : Stp) : Prop := (0 ≤ z.hi ∧ z.hi < 18446744073709551616) ∧ (0 ≤ z.lo ∧ z.lo < 18446744073709551616)
def StIn (w : World) (a : Option Addr) (zs : List Stp) : Prop := 0 < zs.length → ∃ b o, a = some ⟨b, o, none⟩ ∧ b < w.heap.size ∧ ∀ j z, zs[j]? = some z → w.cell? ⟨b, o + j * 3, none⟩ = some (.int .u64 z.hi) ∧ w.cell? ⟨b, o + j * 3 + 1, none⟩ = some (.int .u64 z.lo) ∧ w.cell? ⟨b, o + j * 3 + 2, none⟩ = some (.bool z.rm)

end Go.Proofs.Ybulkadlc
