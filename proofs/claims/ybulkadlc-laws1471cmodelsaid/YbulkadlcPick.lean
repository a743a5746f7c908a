import Derived.Test.YbulkadlcMid
namespace Go.Proofs.Ybulkadlc
open Go.RowKit Go.QuietTail
set_option linter.unusedVariables false
set_option linter.unusedSimpArgs false

/-- The pick: what is left, the entry, the last invalid one, the coins thrown. -/
def pick (V C : Nat → Bool) : Nat → Nat → Nat → Nat → Nat × Nat
  | 0, _, last, k => (last, k)
  | f + 1, i, last, k => if V i then pick V C f (i + 1) last k else if C k then (i, k + 1) else pick V C f (i + 1) i (k + 1)

set_option maxHeartbeats 1000000 in
theorem valid_any (V : Nat → Bool) (bv i : Nat) (hi : i < 129) (w : World) (hV : w.cell? ⟨bv, i, none⟩ = some (.bool (V i))) :
    Calls Yba.prog 29 #[.int .i64 i, .pointer (some ⟨bv, 0, none⟩)] w fun e w' => e = .returned (.bool (V i)) ∧ w = w' := by
  have hi' : (i : Int) < 129 := by omega
  go_enter Yba.func29, Yba.ntmps29
  go_wp2
  go_ret
  exact ⟨rfl, rfl⟩

/-- The coins: the slice's cells. -/
def Coins (w : World) (cc : Nat) (p : Option Addr) (b o cn cap : Nat) (C : Nat → Bool) : Prop := (w.cell? ⟨cc, 0, none⟩ = some (.slice p cn cap) ∧ (0 < cn → p = some ⟨b, o, none⟩)) ∧ (∀ j, j < cn → w.cell? ⟨b, o + j, none⟩ = some (.bool (C j))) ∧ (∀ j, cn ≤ j → C j = false)

set_option maxHeartbeats 1000000 in
theorem coin_any (kc cc b o cn cap k : Nat) (p : Option Addr) (C : Nat → Bool) (w : World) (hk : k ≤ 1000000) (hcn : cn ≤ 1024) (hK : w.cell? ⟨kc, 0, none⟩ = some (.int .i64 k)) (hF : w.frozen? ⟨kc, 0, none⟩ = false) (hC : Coins w cc p b o cn cap C) (h1 : cc ≠ kc) (h2 : b ≠ kc) :
    Calls Yba.prog 11 #[.pointer (some ⟨kc, 0, none⟩), .pointer (some ⟨cc, 0, none⟩)] w fun e w' => e = .returned (.bool (C k)) ∧ w' = w.setCell ⟨kc, 0, none⟩ (.int .i64 ((k : Int) + 1)) := by
  have c1 := hC.1.1
  by_cases hlt : k < cn
  · obtain rfl := hC.1.2 (by omega)
    have c2 := hC.2.1 k hlt
    have hlt' : (k : Int) < (cn : Int) := by omega
    clear hC
    go_enter Yba.func11, Yba.ntmps11
    go_wp2
    go_ret
    exact ⟨rfl, rfl⟩
  · have HC : Hid (C k = false) := hC.2.2 k (by omega)
    have hlt' : ¬ (k : Int) < (cn : Int) := by omega
    clear hC
    go_enter Yba.func11, Yba.ntmps11
    go_wp2
    go_ret
    exact ⟨by rw [HC.out]; rfl, rfl⟩

theorem Coins.kept {w w' : World} {cc : Nat} {p : Option Addr} {b o cn cap : Nat} {C : Nat → Bool} (h : Coins w cc p b o cn cap C) {row : Option Nat} (hg : w.grownBy w' row) (h1 : cc < w.heap.size) (h2 : 0 < cn → b < w.heap.size) (h3 : some cc ≠ row) (h4 : some b ≠ row) : Coins w' cc p b o cn cap C := by
  refine ⟨⟨?_, h.1.2⟩, fun j hj => ?_, h.2.2⟩
  · rw [World.cell?_of_block (w := w) (hg.block cc h1 h3)]; exact h.1.1
  · rw [World.cell?_of_block (w := w) (hg.block b (h2 (by omega)) h4)]; exact h.2.1 j hj

set_option maxHeartbeats 2000000 in
theorem pick_any (V C : Nat → Bool) (cnt bv kc cc b o cn cap : Nat) (p : Option Addr) (w : World) (hcnt : cnt ≤ 128) (hcn : cn ≤ 1024) (hV : ∀ i, i < 129 → w.cell? ⟨bv, i, none⟩ = some (.bool (V i)))
    (hK : w.heap[kc]? = some (.cells #[.int .i64 0] 3 (0, 0))) (hC : Coins w cc p b o cn cap C) (h1 : cc ≠ kc) (h2 : b ≠ kc) (h3 : bv ≠ kc) (l1 : cc < w.heap.size) (l2 : 0 < cn → b < w.heap.size) (l3 : bv < w.heap.size) :
    Calls Yba.prog 28 #[.int .i64 cnt, .func (.func 29) #[] #[.pointer (some ⟨bv, 0, none⟩)], .func (.func 11) #[] #[.pointer (some ⟨kc, 0, none⟩), .pointer (some ⟨cc, 0, none⟩)]] w fun e w' =>
      e = .returned (.int .i64 ((pick V C cnt 1 0 0).1 : Int)) ∧ w'.heap[kc]? = some (.cells #[.int .i64 ((pick V C cnt 1 0 0).2 : Int)] 3 (0, 0)) ∧ w.grownBy w' (some kc) := by
  obtain ⟨R, hR⟩ : ∃ R, R = pick V C cnt 1 0 0 := ⟨_, rfl⟩
  rw [← hR]
  have HR : Hid (R = pick V C cnt 1 0 0) := hR
  have HV : Hid (∀ i, i < 129 → w.cell? ⟨bv, i, none⟩ = some (.bool (V i))) := hV
  have HK : Hid (w.heap[kc]? = some (.cells #[.int .i64 0] 3 (0, 0))) := hK
  have HC : Hid (Coins w cc p b o cn cap C) := hC
  have HL : Hid (cc < w.heap.size ∧ (0 < cn → b < w.heap.size) ∧ bv < w.heap.size ∧ kc < w.heap.size) := ⟨l1, l2, l3, (Array.getElem?_eq_some_iff.1 hK).1⟩
  clear hR hV hK hC l1 l2 l3
  go_enter Yba.func28, Yba.ntmps28
  go_wp2
  go_loopw [7, 8] (fun x y wr => ∃ last i k : Nat, x = .int .i64 last ∧ y = .int .i64 i ∧ 1 ≤ i ∧ i ≤ cnt + 1 ∧ k ≤ i ∧ Hid (pick V C (cnt + 1 - i) i last k = R ∧ wr.heap[kc]? = some (.cells #[.int .i64 (k : Int)] 3 (0, 0)) ∧ w.grownBy wr (some kc))) (fun x y wr => (129 - intOf y).toNat)
  case atStart => exact ⟨0, 1, 0, rfl, rfl, by omega, by omega, by omega, HR.out.symm, HK.out, ⟨rfl, rfl, rfl, Nat.le_refl _, fun _ _ _ => rfl⟩⟩
  case round =>
    obtain ⟨last, i, k, rfl, rfl, hi1, hi2, hki, HH⟩ := hrel
    by_cases hle : i ≤ cnt
    · have hle' : (i : Int) ≤ (cnt : Int) := by omega
      have hv : wr.cell? ⟨bv, i, none⟩ = some (.bool (V i)) := by
        rw [World.cell?_of_block (w := w) (HH.out.2.2.block bv HL.out.2.2.1 (by simpa using h3))]
        exact HV.out i (by omega)
      have ck : wr.cell? ⟨kc, 0, none⟩ = some (.int .i64 k) := by rw [cell_of_row wr kc 0 _ 3 (0, 0) HH.out.2.1]; rfl
      have fk : wr.frozen? ⟨kc, 0, none⟩ = false := frozen_of_row wr kc 0 _ 3 HH.out.2.1
      have HC2 : Hid (Coins wr cc p b o cn cap C) := HC.out.kept HH.out.2.2 HL.out.1 HL.out.2.1 (by simpa using h1) (by simpa using h2)
      have HP : Hid (pick V C (cnt + 1 - i) i last k = if V i then pick V C (cnt + 1 - (i + 1)) (i + 1) last k else if C k then (i, k + 1) else pick V C (cnt + 1 - (i + 1)) (i + 1) i (k + 1)) := by
        show _ = _
        rw [show cnt + 1 - i = (cnt + 1 - (i + 1)) + 1 by omega, pick]
      have HW : Hid ((wr.setCell ⟨kc, 0, none⟩ (.int .i64 ((k : Int) + 1))).heap[kc]? = some (.cells #[.int .i64 ((k + 1 : Nat) : Int)] 3 (0, 0))) := by
        show _ = _
        rw [heap_setCell_same wr kc 0 _ 3 _ HH.out.2.1]
        simp
      have HG : Hid (w.grownBy (wr.setCell ⟨kc, 0, none⟩ (.int .i64 ((k : Int) + 1))) (some kc)) := grownBy_trans HH.out.2.2 (grownBy_setCell _ _ _ _)
      have hk6 : k ≤ 1000000 := by omega
      rcases hVi : V i with _ | _
      · rcases hCk : C k with _ | _
        · rw [hVi] at hv
          go_wp2_with (first | (go_at_call 29; refine (valid_any (fun _ => false) bv i (by omega) wr hv).mono ?_; rintro e w1 ⟨rfl, rfl⟩) | (go_at_call 11; refine (coin_any kc cc b o cn cap k p C wr hk6 hcn ck fk HC2.out h1 h2).mono ?_; rintro e w1 ⟨rfl, rfl⟩; rw [hCk]))
          go_roundw
          case rel => exact ⟨i, i + 1, k + 1, rfl, by simp, by omega, by omega, by omega, by have := HH.out.1; rw [HP.out, hVi, hCk] at this; exact this, HW.out, HG.out⟩
          case measure => simp [intOf]; omega
        · rw [hVi] at hv
          go_wp2_with (first | (go_at_call 29; refine (valid_any (fun _ => false) bv i (by omega) wr hv).mono ?_; rintro e w1 ⟨rfl, rfl⟩) | (go_at_call 11; refine (coin_any kc cc b o cn cap k p C wr hk6 hcn ck fk HC2.out h1 h2).mono ?_; rintro e w1 ⟨rfl, rfl⟩; rw [hCk]))
          have hE : R = (i, k + 1) := by have := HH.out.1; rw [HP.out, hVi, hCk] at this; exact this.symm
          go_ret
          rw [hE]
          exact ⟨rfl, HW.out, HG.out⟩
      · rw [hVi] at hv
        go_wp2_with (first | (go_at_call 29; refine (valid_any (fun _ => true) bv i (by omega) wr hv).mono ?_; rintro e w1 ⟨rfl, rfl⟩))
        go_roundw
        case rel => exact ⟨last, i + 1, k, rfl, by simp, by omega, by omega, by omega, by have := HH.out.1; rw [HP.out, hVi] at this; exact this, HH.out.2.1, HH.out.2.2⟩
        case measure => simp [intOf]; omega
    · have hle' : ¬ (i : Int) ≤ (cnt : Int) := by omega
      go_wp2
      have hE : R = (last, k) := by have := HH.out.1; rw [show cnt + 1 - i = 0 by omega, pick] at this; exact this.symm
      go_ret
      rw [hE]
      exact ⟨rfl, HH.out.2.1, HH.out.2.2⟩
end Go.Proofs.Ybulkadlc
