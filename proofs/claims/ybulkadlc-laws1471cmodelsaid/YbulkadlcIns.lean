import Derived.Test.YbulkadlcFind
import Derived.Lib.Overlaps
import Derived.Lib.AppendZerosOnto
import Derived.Laws.NewBlocks
import Derived.Laws.Externs
namespace Go.Proofs.Ybulkadlc
open Go.RowKit Go.QuietTail
set_option linter.unusedVariables false
set_option linter.unusedSimpArgs false

def zeroF : Value := .agg (cellsF (0, zero16)).toArray
theorem info65z : (Yba.prog.info? 65).map (fun i => (i.zero, i.size, i.bytes)) = some (some zeroF, 17, 17) := by kernel_rfl
theorem zeroF_size : zeroF.cells.size = 17 := by kernel_rfl

/-- The variadic argument: one finger in a block of its own. -/
def One (w : World) (vb : Nat) (x : Fg) : Prop := w.heap[vb]? = some (.cells (cellsF x).toArray 65 (0, 0))
theorem One.cells {w : World} {vb : Nat} {x : Fg} (h : One w vb x) : ∀ j u, (cellsF x)[j]? = some u → w.cell? ((⟨vb, 0, none⟩ : Addr).add j) = some u := fun j u hj => by
  rw [Addr.add_mid, Nat.zero_add, cell_of_row w vb j _ 65 (0, 0) h]
  simpa using hj
theorem One.lt {w : World} {vb : Nat} {x : Fg} (h : One w vb x) : vb < w.heap.size := (Array.getElem?_eq_some_iff.1 h).1

set_option maxHeartbeats 2000000 in
/-- At the end. -/
theorem insert_end (B : Nat) (vf : Value) (l : List Fg) (x : Fg) (vb : Nat) (w : World) (hok : FOk l) (hx : FgOk x) (hl : l.length ≤ 1024) (hT : Tab w B vf l) (hB : B ≤ w.heap.size) (hV : One w vb x) :
    Calls Yba.prog 25 #[vf, .int .i64 l.length, .slice (some ⟨vb, 0, none⟩) 1 1] w fun e w' => ∃ vf', e = .returned vf' ∧ Tab w' B vf' (l ++ [x]) ∧ w.grownBy w' vf.ownBlock := by
  obtain ⟨i0, hi0, hz0, hz1, hz2⟩ := info_parts info65z
  have key : ∀ (vf' : Value) (w' : World), w'.ownsRow B 65 17 vf' (l.length + 1) (flatF l ++ cellsF x) → Tab w' B vf' (l ++ [x]) := fun vf' w' h => by
    unfold Tab
    rw [flatF_append, List.length_append]
    simpa [flatF] using h
  rcases hT.2 with ⟨hv, hn⟩ | ⟨g, cap, cur, hv, _, _, hnc, hcm, _, _⟩
  · subst hv
    have HT : Hid (w.ownsRow B 65 17 (.slice none 0 0) l.length (flatF l)) := hT
    have HV : Hid (One w vb x) := hV
    clear hT hV
    rw [hn] at HT key ⊢
    go_enter Yba.func25, Yba.ntmps25
    go_wp2_with (at_builtin; refine wpList_append_own _ rfl (.tmp 23) (.tmp 24) 31 rfl B 65 i0 zeroF 17 17 Yba.underlying31 hi0 hz0 hz1 hz2 zeroF_size (by omega) _ 0 (flatF l) rfl HT.out ⟨vb, 0, none⟩ 1 1 (cellsF x) rfl ?qc1 HV.out.cells (cellsF_one x) ?qc4 ?qc5 hB ?_)
    case qc1 => rw [cellsF_len hx]
    case qc4 => simp [maxLen]
    case qc5 => omega
    intro v' w1 hown hgrow hnil
    go_wp2
    go_ret
    exact ⟨v', rfl, key _ _ hown, hgrow⟩
  · subst hv
    have HT : Hid (w.ownsRow B 65 17 (.slice (some ⟨g, 0, none⟩) l.length cap) l.length (flatF l)) := hT
    have HV : Hid (One w vb x) := hV
    clear hT hV
    obtain ⟨n, hn⟩ : ∃ n, n = l.length := ⟨_, rfl⟩
    rw [← hn] at HT key hl hnc ⊢
    clear hn
    have hcm' : cap ≤ 9223372036854775807 := by unfold maxLen at hcm; omega
    go_enter Yba.func25, Yba.ntmps25
    go_wp2_with (at_builtin; refine wpList_append_own _ rfl (.tmp 23) (.tmp 24) 31 rfl B 65 i0 zeroF 17 17 Yba.underlying31 hi0 hz0 hz1 hz2 zeroF_size (by omega) _ n (flatF l) rfl HT.out ⟨vb, 0, none⟩ 1 1 (cellsF x) rfl (by rw [cellsF_len hx]) HV.out.cells (cellsF_one x) (by unfold maxLen; omega) (by omega) hB ?_)
    all_goals
      intro v' w1 hown hgrow hnil
      go_wp2
      go_ret
      exact ⟨v', rfl, key _ _ hown, hgrow⟩

theorem One.shape {w : World} {vb : Nat} {x : Fg} (h : One w vb x) (hx : FgOk x) : w.shape? vb = some (65, 17) := by
  have h' : w.heap[vb]? = some (.cells (cellsF x).toArray 65 (0, 0)) := h
  simp [World.shape?, h', cellsF_len hx]
theorem size65 (w : World) : (Go.sizeOf 65).run Yba.prog w = .ok 17 w := by
  obtain ⟨i0, hi0, hz0, hz1, hz2⟩ := info_parts info65z
  simp [sizeOf, typeInfo, hi0, hz1]
theorem overlaps_no (w : World) (vb g o lb cb : Nat) (x : Fg) (hx : FgOk x) (hV : One w vb x) (cur : Array Value) (hg : w.heap[g]? = some (.cells cur 65 (0, 0))) (hc : cur.size ≠ 0) (hne : vb ≠ g) :
    (callFunc 35 #[.slice (some ⟨vb, 0, none⟩) 1 1, .slice (some ⟨g, o, none⟩) lb cb]).run Yba.prog w = .ok (.value (.bool false)) w := by
  rw [run_callFunc_extern Yba.func35 (by kernel_rfl) (by kernel_rfl) (by kernel_rfl) (e := Extern.SlicesOverlaps.overlaps #[31, 31] #[4]) (by kernel_rfl),
    Lib.run_overlaps_apart w 31 4 65 Yba.underlying31 17 size65 ⟨vb, 0, none⟩ ⟨g, o, none⟩ 1 1 lb cb hne 65 65 17 cur.size (hV.shape hx) (by simp [World.shape?, hg]) hc (frozen_of_row w vb 0 _ 65 hV) (frozen_of_row w vb 17 _ 65 hV)]
  rfl

theorem row_cells {w : World} {g : Nat} {cur : List Value} {t : TypeId} (hg : w.heap[g]? = some (.cells cur.toArray t (0, 0))) (l : List Fg) (hok : FOk l) (htk : cur.take (l.length * 17) = flatF l) (k : Nat) (hk : k ≤ l.length) :
    ∀ j u, (flatF (l.drop k))[j]? = some u → w.cell? ((⟨g, k * 17, none⟩ : Addr).add j) = some u := fun j u hj => by
  rw [Addr.add_mid, cell_of_row w g (k * 17 + j) _ t (0, 0) hg]
  have hj2 : (flatF l)[k * 17 + j]? = some u := by rw [← flatF_drop hok k, List.getElem?_drop] at hj; exact hj
  rw [← htk, List.getElem?_take] at hj2
  split at hj2
  · simpa using hj2
  · cases hj2
theorem info65s : (Yba.prog.info? 65).map (·.size) = some 17 := info65

set_option maxHeartbeats 2000000 in
set_option maxRecDepth 100000 in
theorem insert_room (g cap n : Nat) (cur : List Value) (l : List Fg) (k : Nat) (x : Fg) (vb : Nat) (w : World) (hok : FOk l) (hx : FgOk x) (hln : l.length = n) (hk : k < n) (hl : n ≤ 1024) (hg : w.heap[g]? = some (.cells cur.toArray 65 (0, 0))) (hcl : cur.length = cap * 17)
    (htk : cur.take (n * 17) = flatF l) (hroom : n + 1 ≤ cap) (hcm : cap ≤ 9223372036854775807) (hV : One w vb x) (hne : vb ≠ g) :
    Calls Yba.prog 25 #[.slice (some ⟨g, 0, none⟩) n cap, .int .i64 k, .slice (some ⟨vb, 0, none⟩) 1 1] w fun e w' => e = .returned (.slice (some ⟨g, 0, none⟩) (n + 1) cap) ∧
      w'.heap[g]? = some (.cells (splice (splice cur ((k + 1) * 17) (flatF (l.drop k))) (k * 17) (cellsF x)).toArray 65 (0, 0)) ∧ w.grownBy w' (some g) := by
  have hz2 : ¬ ((k : Int) = (n : Int)) := by omega
  have hov := fun o lb cb => overlaps_no w vb g o lb cb x hx hV cur.toArray hg (by simp only [List.size_toArray]; rw [hcl]; omega) hne
  have hw1 : IntKind.i64.wrap ((k : Int) + 1) = (k : Int) + 1 := by rw [IntKind.wrap_i64]; omega
  have hb1 : (0 : Int) ≤ (k : Int) + 1 := by omega
  have hin : k ≤ n := by omega
  have htn : ((k : Int) + 1).toNat = k + 1 := by omega
  have hb2 : ¬ (cap = k + 1) := by omega
  have hb3 : (k : Int) ≤ (n : Int) + 1 := by omega
  have hb4 : ¬ (cap = k) := by omega
  have HG : Hid (w.heap[g]? = some (.cells cur.toArray 65 (0, 0))) := hg
  have HV : Hid (One w vb x) := hV
  have HC : Hid (cur.length = cap * 17) := hcl
  have HL : Hid (l.length = n) := hln
  have HS : Hid (∀ j u, (flatF (l.drop k))[j]? = some u → w.cell? ((⟨g, k * 17, none⟩ : Addr).add j) = some u) := row_cells hg l hok (by rw [hln]; exact htk) k (by omega)
  have HFL : Hid ((flatF (l.drop k)).length = (n - k) * 17) := by
    show _ = _
    rw [flatF_len (fun y hy => hok y (List.mem_of_mem_drop hy)), List.length_drop, hln]
  clear hg hV hcl hln
  obtain ⟨D, hD⟩ : ∃ D, D = flatF (l.drop k) := ⟨_, rfl⟩
  have HD1 : Hid (∀ v ∈ D, v.oneCell' = true) := by show ∀ v ∈ D, v.oneCell' = true; rw [hD]; exact flatF_one _
  rw [← hD] at HS HFL ⊢
  clear hD
  obtain ⟨cur2, hcur2⟩ : ∃ cur2, cur2 = splice cur ((k + 1) * 17) D := ⟨_, rfl⟩
  rw [← hcur2]
  have HCU : Hid (cur2 = splice cur ((k + 1) * 17) D) := hcur2
  clear hcur2
  go_enter Yba.func25, Yba.ntmps25
  go_wp2_with (simp only [hov])
  have HN1 : Hid (D.length = Nat.min (n + 1 - k) (n - k) * 17) := by
    show _ = _
    rw [HFL.out, show Nat.min (n + 1 - k) (n - k) = n - k by simp only [Nat.min_def]; split <;> omega]
  have HF1 : Hid ((k + 1) * 17 + D.length ≤ cur.length) := by
    show _ ≤ _
    rw [HFL.out, HC.out]
    omega
  go_region_law ((refine step_copy_k rfl (.tmp 73) (.tmp 76) 31 31 rfl 17 65 Yba.underlying31 info65s g ((k + 1) * 17) (n - k) (cap - (k + 1)) ⟨g, k * 17, none⟩ (n + 1 - k) (cap - k) (by simp [Act.eval, Act.put]) (by simp [Act.eval, Act.put]) cur 65 HG.out D HN1.out HS.out HF1.out HD1.out ?_; intro w2 hg2 hgr2))
  have hcur2 := HCU.out
  rw [← hcur2] at hg2
  have HV2 : Hid (One w2 vb x) := by
    show w2.heap[vb]? = _
    rw [hgr2.block vb HV.out.lt (by simpa using hne)]
    exact HV.out
  have HF2 : Hid (k * 17 + (cellsF x).length ≤ cur2.length) := by
    show _ ≤ _
    rw [hcur2, length_splice _ _ _ HF1.out, cellsF_len hx, HC.out]
    omega
  have HN2 : Hid ((cellsF x).length = Nat.min 1 (n + 1 - k) * 17) := by
    show _ = _
    rw [cellsF_len hx, show Nat.min 1 (n + 1 - k) = 1 by simp only [Nat.min_def]; split <;> omega]
  have HGR : Hid (w.grownBy w2 (some g)) := ⟨hgr2.os, hgr2.tape, hgr2.output, hgr2.size, hgr2.block⟩
  clear hcur2 hgr2
  go_wp2_with (refine wpList_copy_k rfl (.tmp 80) (.tmp 81) 31 31 rfl 17 65 Yba.underlying31 info65s g (k * 17) (n + 1 - k) (cap - k) ⟨vb, 0, none⟩ 1 1 rfl rfl cur2 65 hg2.out (cellsF x) HN2.out HV2.out.cells HF2.out (cellsF_one x) ?_; intro w3 hg3 hgr3)
  go_ret
  exact ⟨rfl, hg3.out, grownBy_trans HGR.out hgr3⟩
end Go.Proofs.Ybulkadlc
