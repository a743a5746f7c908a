import Derived.Test.YbulkadlcRep
import Derived.Test.YbulkadlcOrd
namespace Go.Proofs.Ybulkadlc
open Go.RowKit Go.QuietTail
set_option linter.unusedVariables false
set_option linter.unusedSimpArgs false

/-- The block of a NeighbourTable. -/
def NT (w : World) (N : Nat) (me : List Int) (vp vs : Value) : Prop := w.heap[N]? = some (.cells (cellsId me ++ [vp, vs]).toArray 30 (0, 0))
theorem NT.later {w w' : World} {N : Nat} {me : List Int} {vp vs : Value} (h : NT w N me vp vs) (hb : Below w.heap.size w w') : NT w' N me vp vs := by
  unfold NT at *
  rw [hb.block N (Array.getElem?_eq_some_iff.1 h).1]
  exact h
theorem NT.lt {w : World} {N : Nat} {me : List Int} {vp vs : Value} (h : NT w N me vp vs) : N < w.heap.size := (Array.getElem?_eq_some_iff.1 h).1
theorem NT.cP {w : World} {N : Nat} {me : List Int} {vp vs : Value} (h : NT w N me vp vs) (hs : me.length = 16) : w.cell? ⟨N, 16, none⟩ = some vp := by
  rw [cell_of_row w N 16 _ 30 (0, 0) h]
  simp [cellsId, hs, List.getElem?_append]
theorem NT.cS {w : World} {N : Nat} {me : List Int} {vp vs : Value} (h : NT w N me vp vs) (hs : me.length = 16) : w.cell? ⟨N, 17, none⟩ = some vs := by
  rw [cell_of_row w N 17 _ 30 (0, 0) h]
  simp [cellsId, hs, List.getElem?_append]
theorem NT.me {w : World} {N : Nat} {me : List Int} {vp vs : Value} (h : NT w N me vp vs) : w.rangeAt N 0 (cellsId me) := fun j v hv => by
  rw [cell_of_row w N (0 + j) _ 30 (0, 0) h]
  obtain ⟨h1, h2⟩ := List.getElem?_eq_some_iff.1 hv
  simp [List.getElem?_append, h1, h2]

theorem fillI (d : List Int) (hd : d.length = 16) : Instr.fill (fun i => some (i * 16, 16)) ((Array.range (1 * 16)).map (zeroI.cells[· % zeroI.cells.size]!)) [(0, .agg (cellsId d).toArray)] = some (cellsId d).toArray := by
  obtain ⟨d0, d1, d2, d3, d4, d5, d6, d7, d8, d9, d10, d11, d12, d13, d14, d15, rfl⟩ := list16 d hd
  kernel_rfl
theorem wpList_bs {ops : Array Oper} {rest : List Oper} {o : Oper} {a : Act} {w : World} {Q : Exit → Act → World → Prop} (hg : o.guard = none) (x : Operand) (ho : o.op = .buildSlice 24 1 #[(0, x)]) (d : List Int) (hd : d.length = 16) (hx : a.eval x = .agg (cellsId d).toArray)
    (h : wpList Yba.prog ops Q rest (a.put o.dst (.slice (some ⟨w.heap.size, 0, none⟩) 1 1)) (w.alloc (.cells (cellsId d).toArray 23))) : wpList Yba.prog ops Q (o :: rest) a w := by
  obtain ⟨i0, hi0, hz0, hz1, hz2⟩ := info_parts info23z
  refine wpList_buildSlice hg 24 23 1 #[(0, x)] ho (cellsId d).toArray i0 zeroI Yba.underlying24 hi0 hz0 (by rw [hz1]; decide) (by rw [hz1]; decide) ?_ h
  rw [hz1]
  have := fillI d hd
  simp only [List.map_toArray, List.map_cons, List.map_nil, hx]
  exact this

def peersL (p s : List (List Int)) : List (List Int) := s.foldl (fun acc x => if x ∈ acc then acc else acc ++ [x]) p
theorem peersL_mem (s : List (List Int)) : ∀ (p : List (List Int)) x, x ∈ peersL p s ↔ x ∈ p ∨ x ∈ s := by
  induction s with
  | nil => intro p x; simp [peersL]
  | cons a s ih =>
    intro p x
    unfold peersL at *
    rw [List.foldl_cons, ih]
    split
    · constructor
      · rintro (h | h)
        · exact .inl h
        · exact .inr (by simp [h])
      · rintro (h | h)
        · exact .inl h
        · rcases List.mem_cons.1 h with rfl | h
          · exact .inl (by assumption)
          · exact .inr h
    · rw [List.mem_append, List.mem_singleton, List.mem_cons]
      constructor
      · rintro ((h | h) | h)
        · exact .inl h
        · exact .inr (.inl h)
        · exact .inr (.inr h)
      · rintro (h | h | h)
        · exact .inl (.inl h)
        · exact .inl (.inr h)
        · exact .inr h
theorem peersL_len (s : List (List Int)) : ∀ (p : List (List Int)), (peersL p s).length ≤ p.length + s.length := by
  induction s with
  | nil => intro p; simp [peersL]
  | cons a s ih =>
    intro p
    unfold peersL at *
    rw [List.foldl_cons]
    have h1 := ih (if a ∈ p then p else p ++ [a])
    have h2 : (if a ∈ p then p else p ++ [a]).length ≤ p.length + 1 := by split <;> simp
    simp only [List.length_cons]
    omega
theorem peersL_nodup (s : List (List Int)) : ∀ (p : List (List Int)), p.Nodup → (peersL p s).Nodup := by
  induction s with
  | nil => intro p h; exact h
  | cons a s ih =>
    intro p h
    unfold peersL at *
    rw [List.foldl_cons]
    refine ih _ ?_
    split
    · exact h
    · rw [List.nodup_append]
      refine ⟨h, by simp, fun x hx y hy => ?_⟩
      rw [List.mem_singleton] at hy
      subst hy
      exact fun e => (by assumption : ¬ y ∈ p) (e ▸ hx)
theorem peersL_snoc (p s : List (List Int)) (x : List Int) : peersL p (s ++ [x]) = if x ∈ peersL p s then peersL p s else peersL p s ++ [x] := by
  unfold peersL
  rw [List.foldl_append]
  rfl
theorem peersL_ok {p s : List (List Int)} (hp : IsOk p) (hs : IsOk s) : IsOk (peersL p s) := fun x hx => by
  rcases (peersL_mem s p x).1 hx with h | h
  · exact hp x h
  · exact hs x h

theorem Blk.cells' {w : World} {g : Nat} {d : List Int} (h : Blk w g d) : ∀ j u, (cellsId d)[j]? = some u → w.cell? ((⟨g, 0, none⟩ : Addr).add j) = some u := fun j u hj => by
  rw [Addr.add_mid]
  exact h.range j u hj

set_option maxHeartbeats 2000000 in
theorem peers_any (N : Nat) (me : List Int) (vp vs : Value) (p s : List (List Int)) (hm : me.length = 16) (hp : IsOk p) (hs : IsOk s) (lp : p.length ≤ 64) (ls : s.length ≤ 64) (w : World) (hN : NT w N me vp vs) (hP : IdsR w vp p) (hS : IdsR w vs s) :
    Calls Yba.prog 32 #[.pointer (some ⟨N, 0, none⟩)] w fun e w' => ∃ v, e = .returned v ∧ (Ids w' w.heap.size v (peersL p s) ∧ Below w.heap.size w w') := by
  obtain ⟨i0, hi0, hz0, hz1, hz2⟩ := info_parts info23z
  have c16 := hN.cP hm
  have HN : Hid (NT w N me vp vs) := hN
  have HP : Hid (IdsR w vp p) := hP
  obtain ⟨q, c, hvs, _, hS3⟩ := hS
  subst hvs
  obtain ⟨n, hn⟩ : ∃ n, n = s.length := ⟨_, rfl⟩
  have HNN : Hid (n = s.length) := hn
  have HS3 : Hid _ := hS3
  rw [← hn] at ls
  have hN' := HN.out
  rw [← hn] at hN'
  have HNT : Hid (NT w N me vp (.slice q n c)) := hN'
  clear hS3 hN hP hn hN' HN
  obtain ⟨pp, pc, rfl, _⟩ := HP.out
  go_enter Yba.func32, Yba.ntmps32
  go_wp2_with (first | (go_at_call 6; refine (HP.out.clone hp (by omega)).mono ?_; rintro e w1 ⟨v1, rfl, hI1, hb1⟩; have HI1 : Hid (Ids w1 w.heap.size v1 p) := hI1; have HB1 : Hid (Below w.heap.size w w1) := hb1; have c17 := (HNT.out.later hb1).cS hm; clear hI1 hb1))
  clear c16 c17
  go_loopw [3, 16] (fun u t wr => ∃ j : Nat, t = .int .i64 j ∧ j ≤ n ∧ Hid (Ids wr w.heap.size u (peersL p (s.take j)) ∧ Below w.heap.size w wr)) (fun u t wr => (n - intOf t).toNat)
  case atStart => exact ⟨0, rfl, Nat.zero_le _, HI1.out, HB1.out⟩
  case round =>
    obtain ⟨j, rfl, hjn, HH⟩ := hrel
    by_cases hlt : j < n
    · have hlt' : (j : Int) < (n : Int) := by omega
      obtain ⟨x, hx⟩ : ∃ x, s[j]? = some x := ⟨_, List.getElem?_eq_getElem (by have := HNN.out; omega)⟩
      have hxo := hs.at hx
      obtain ⟨b, f, e1, t1, r1⟩ := HS3.out (by have := HNN.out; omega)
      subst e1
      have LD : Hid (wr.rangeAt b (f + j * 16) (cellsId x)) := fun t u ht => by
        rw [HH.out.2.cell (p := ⟨b, f + j * 16 + t, none⟩) t1]
        exact r1 j x hx t u ht
      obtain ⟨pv, pn, pc', hu3⟩ := HH.out.1.form2
      subst hu3
      have hpl : (peersL p (s.take j)).length ≤ 128 := by
        have h1 := peersL_len (s.take j) p
        rw [List.length_take] at h1
        have := HNN.out
        omega
      have hpo : IsOk (peersL p (s.take j)) := peersL_ok hp (fun y hy => hs y (List.mem_of_mem_take hy))
      have HT : Hid (peersL p (s.take (j + 1)) = if x ∈ peersL p (s.take j) then peersL p (s.take j) else peersL p (s.take j) ++ [x]) := by
        show _ = _
        rw [List.take_add_one, hx]
        exact peersL_snoc p (s.take j) x
      obtain ⟨PL, hPL⟩ : ∃ PL, PL = peersL p (s.take j) := ⟨_, rfl⟩
      rw [← hPL] at HT HH hpl hpo
      clear hPL r1 hx
      by_cases hin : x ∈ PL
      · have hin' : decide (x ∈ PL) = true := decide_eq_true hin
        go_wp2_with (first | (refine wpList_load_mid rfl 23 (.tmp 18) rfl _ _ rfl (cellsId x) _ LD.out Yba.underlying23 rfl (by rw [info23]; simp [cellsId, hxo.1]) ?_) | (refine wpList_store_id rfl (.tmp 5) (.tmp 19) rfl _ rfl x hxo.1 rfl zero16 rfl (Blk.new wr zero16) ?_; intro w4 hB4 hg4; have L4 : Below wr.heap.size wr w4 := ((Below.refl _ wr).alloc (Nat.le_refl _) _).grown hg4 (by simp) (by rintro k ⟨⟩; exact Nat.le_refl _); have HB4 : Hid (Blk w4 wr.heap.size x) := hB4; have HL4 : Hid (Below wr.heap.size wr w4) := L4; clear hB4 hg4 L4) | (refine wpList_load_id rfl (.tmp 5) rfl _ rfl x hxo.1 HB4.out ?_) | (go_at_call 42; refine (contains_any w.heap.size _ PL x hxo hpo (by omega) w4 (HH.out.1.later HL4.out)).mono ?_; rintro e w5 ⟨rfl, hb5⟩; rw [hin']))
        go_roundw
        case rel =>
          have L5 : Below wr.heap.size wr w5 := HL4.out.trans (hb5.mono HL4.out.size)
          refine ⟨j + 1, by simp, by omega, ?_, HH.out.2.trans (L5.mono HH.out.2.size)⟩
          rw [HT.out, if_pos hin]
          exact HH.out.1.later L5
        case measure => simp [intOf]; omega
      · have hin' : decide (x ∈ PL) = false := decide_eq_false hin
        go_wp2_with (first | (refine wpList_load_mid rfl 23 (.tmp 18) rfl _ _ rfl (cellsId x) _ LD.out Yba.underlying23 rfl (by rw [info23]; simp [cellsId, hxo.1]) ?_) | (refine wpList_store_id rfl (.tmp 5) (.tmp 19) rfl _ rfl x hxo.1 rfl zero16 rfl (Blk.new wr zero16) ?_; intro w4 hB4 hg4; have L4 : Below wr.heap.size wr w4 := ((Below.refl _ wr).alloc (Nat.le_refl _) _).grown hg4 (by simp) (by rintro k ⟨⟩; exact Nat.le_refl _); have HB4 : Hid (Blk w4 wr.heap.size x) := hB4; have HL4 : Hid (Below wr.heap.size wr w4) := L4; clear hB4 hg4 L4) | (refine wpList_load_id rfl (.tmp 5) rfl _ rfl x hxo.1 HB5.out ?_) | (refine wpList_load_id rfl (.tmp 5) rfl _ rfl x hxo.1 HB4.out ?_) | (go_at_call 42; refine (contains_any w.heap.size _ PL x hxo hpo (by omega) w4 (HH.out.1.later HL4.out)).mono ?_; rintro e w5 ⟨rfl, hb5⟩; rw [hin']; have HL5 : Hid (Below wr.heap.size wr w5) := HL4.out.trans (hb5.mono HL4.out.size); have HB5 : Hid (Blk w5 wr.heap.size x) := HB4.out.later hb5; clear hb5) | (refine wpList_bs rfl (.tmp 25) rfl x hxo.1 rfl ?_) | (at_builtin; refine wpList_append_own _ rfl (.tmp 24) (.tmp 26) 24 rfl w.heap.size 23 i0 zeroI 16 16 Yba.underlying24 hi0 hz0 hz1 hz2 zeroI_size (by omega) _ PL.length (flatI PL) rfl (World.ownsRow.alloc (HH.out.1.later HL5.out) _) ⟨w5.heap.size, 0, none⟩ 1 1 (cellsId x) rfl (by rw [cellsId_len hxo]) (Blk.new w5 x).cells' (cellsId_one x) (by unfold maxLen; omega) (by omega) (by have := HH.out.2.size; have := HL5.out.size; simp; omega) ?_; intro v6 w6 hO6 hG6 hnil6))
        go_roundw
        case rel =>
          have L5 : Below w.heap.size w (w5.alloc (.cells (cellsId x).toArray 23)) := (HH.out.2.trans (HL5.out.mono HH.out.2.size)).alloc (Nat.le_trans HH.out.2.size HL5.out.size) _
          refine ⟨j + 1, by simp, by omega, ?_, L5.grown hG6 L5.size (fun k hk => (World.ownsRow.lt HH.out.1 k hk).1)⟩
          rw [HT.out, if_neg hin]
          unfold Ids
          rw [flatI_append, List.length_append]
          simpa [flatI] using hO6
        case measure => simp [intOf]; omega
    · have hlt' : ¬ (j : Int) < (n : Int) := by omega
      go_wp2
      go_ret
      refine ⟨_, rfl, ?_, HH.out.2⟩
      have := HH.out.1
      rw [List.take_of_length_le (by have := HNN.out; omega)] at this
      exact this
end Go.Proofs.Ybulkadlc
