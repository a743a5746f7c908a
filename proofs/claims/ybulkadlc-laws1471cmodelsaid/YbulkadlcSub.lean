import Derived.Test.YbulkadlcEqC
import Derived.Test.YbulkadlcSetF
import Derived.Test.YbulkadlcNum
namespace Go.Proofs.Ybulkadlc
open Go.RowKit Go.QuietTail
set_option linter.unusedVariables false
set_option linter.unusedSimpArgs false

def numL : List Int → Int
  | [] => 0
  | x :: l => x * 256 ^ l.length + numL l
def Byt (l : List Int) : Prop := ∀ x ∈ l, 0 ≤ x ∧ x ≤ 255
theorem numL_bd : ∀ {l : List Int}, Byt l → 0 ≤ numL l ∧ numL l < 256 ^ l.length
  | [], _ => by simp [numL]
  | x :: l, h => by
    have ih := numL_bd (l := l) (fun y hy => h y (by simp [hy]))
    have hx := h x (by simp)
    have hp : (0 : Int) < 256 ^ l.length := Int.pow_pos (by decide)
    rw [numL, List.length_cons, Int.pow_succ]
    have h1 : x * 256 ^ l.length ≤ 255 * 256 ^ l.length := Int.mul_le_mul_of_nonneg_right hx.2 (Int.le_of_lt hp)
    have h2 : 0 ≤ x * 256 ^ l.length := Int.mul_nonneg hx.1 (Int.le_of_lt hp)
    omega
theorem numL_num {d : List Int} (h : d.length = 16) : numL d = num d := by
  obtain ⟨d0, d1, d2, d3, d4, d5, d6, d7, d8, d9, d10, d11, d12, d13, d14, d15, rfl⟩ := list16 d h
  simp [numL, num, hiOf, loOf, be8]
  omega
theorem numL_lt : ∀ (k : Nat) (a b : List Int), a.length = b.length → Byt a → Byt b → (∀ j, j < k → a[j]? = b[j]?) → ∀ x y, a[k]? = some x → b[k]? = some y → x < y → numL a < numL b
  | 0, a, b, hl, ha, hb, _, x, y, hx, hy, hxy => by
    match a, b with
    | [], _ => simp at hx
    | _ :: _, [] => simp at hy
    | u :: a, v :: b =>
      simp at hx hy
      subst hx; subst hy
      have h1 := numL_bd (l := a) (fun z hz => ha z (by simp [hz]))
      have h2 := numL_bd (l := b) (fun z hz => hb z (by simp [hz]))
      have hl' : a.length = b.length := by simpa using hl
      rw [numL, numL, hl']
      rw [hl'] at h1
      have hp : (0 : Int) < 256 ^ b.length := Int.pow_pos (by decide)
      have h3 : (u + 1) * 256 ^ b.length ≤ v * 256 ^ b.length := Int.mul_le_mul_of_nonneg_right (by omega) (Int.le_of_lt hp)
      rw [Int.add_mul, Int.one_mul] at h3
      omega
  | k + 1, a, b, hl, ha, hb, he, x, y, hx, hy, hxy => by
    match a, b with
    | [], _ => simp at hx
    | _ :: _, [] => simp at hy
    | u :: a, v :: b =>
      have h0 := he 0 (by omega)
      simp at h0
      subst h0
      have hl' : a.length = b.length := by simpa using hl
      have ih := numL_lt k a b hl' (fun z hz => ha z (by simp [hz])) (fun z hz => hb z (by simp [hz])) (fun j hj => by have := he (j + 1) (by omega); simpa using this) x y (by simpa using hx) (by simpa using hy) hxy
      rw [numL, numL, hl']
      omega

set_option maxHeartbeats 1000000 in
theorem less_any (a b : List Int) (ha : IdOk a) (hb : IdOk b) (w : World) :
    Calls Yba.prog 18 #[idv a, idv b] w fun e w' => e = .returned (.bool (decide (num a < num b))) ∧ Below w.heap.size w w' := by
  have hB : Below w.heap.size w ((w.alloc (.cells (cellsId a).toArray 23)).alloc (.cells (cellsId b).toArray 23)) := ((Below.refl _ w).alloc (Nat.le_refl _) _).alloc (by simp) _
  have hA : Blk ((w.alloc (.cells (cellsId a).toArray 23)).alloc (.cells (cellsId b).toArray 23)) w.heap.size a := (Blk.new w a).alloc _
  have hBb : Blk ((w.alloc (.cells (cellsId a).toArray 23)).alloc (.cells (cellsId b).toArray 23)) (w.heap.size + 1) b := by have := Blk.new (w.alloc (.cells (cellsId a).toArray 23)) b; simpa using this
  have HA : Hid (IdOk a ∧ IdOk b) := ⟨ha, hb⟩
  unfold idv
  go_enter Yba.func18, Yba.ntmps18
  go_wp2
  generalize (w.alloc (.cells (cellsId a).toArray 23)).alloc (.cells (cellsId b).toArray 23) = W at *
  go_loopw [5] (fun u wr => ∃ k : Nat, u = .int .i64 k ∧ k ≤ 16 ∧ Hid (Blk wr w.heap.size a ∧ Blk wr (w.heap.size + 1) b ∧ Below w.heap.size w wr ∧ ∀ j, j < k → a[j]? = b[j]?)) (fun u wr => (16 - intOf u).toNat)
  case atStart => exact ⟨0, rfl, by omega, hA, hBb, hB, fun j h => absurd h (Nat.not_lt_zero _)⟩
  case round =>
    obtain ⟨k, rfl, hk, HH⟩ := hrel
    by_cases hlt : k < 16
    · have hlt' : (k : Int) < 16 := by omega
      have c1 := HH.out.1.cell k (by rw [ha.1]; exact hlt)
      have c2 := HH.out.2.1.cell k (by rw [hb.1]; exact hlt)
      have hx := ha.byte k
      have hy := hb.byte k
      have HX : Hid (a[k]? = some (a.getD k 0) ∧ b[k]? = some (b.getD k 0)) := by
        refine ⟨?_, ?_⟩
        · rw [List.getD_eq_getElem?_getD, List.getElem?_eq_getElem (by rw [ha.1]; exact hlt)]; rfl
        · rw [List.getD_eq_getElem?_getD, List.getElem?_eq_getElem (by rw [hb.1]; exact hlt)]; rfl
      generalize a.getD k 0 = x at *
      generalize b.getD k 0 = y at *
      obtain ⟨x0, x1⟩ := hx
      obtain ⟨y0, y1⟩ := hy
      by_cases hxy : x = y
      · have hxy' : (x == y) = true := by simpa using hxy
        have hxy2 : (x != y) = false := by simp [hxy]
        have HXY : Hid (x = y) := hxy
        clear hxy
        go_wp2
        go_quiet (fail)
        go_wp2
        go_roundw
        case rel =>
          refine ⟨k + 1, by simp, by omega, HH.out.1, HH.out.2.1, below_drewN HH.out.2.2.1 _, fun j hj => ?_⟩
          by_cases e : j = k
          · subst e; rw [HX.out.1, HX.out.2, HXY.out]
          · exact HH.out.2.2.2 j (by omega)
        case measure => simp [intOf]; omega
      · have hxy' : (x == y) = false := by simpa using hxy
        have hxy2 : (x != y) = true := by simp [hxy]
        have HXY : Hid (¬ x = y) := hxy
        clear hxy
        go_wp2
        go_quiet (fail)
        go_wp2
        go_quiet (fail)
        go_wp2
        go_ret
        have e : decide (num a < num b) = decide (x < y) := by
          rw [decide_eq_decide, ← numL_num ha.1, ← numL_num hb.1]
          constructor
          · intro h
            refine Int.not_le.1 fun hle => ?_
            have := numL_lt k b a (by rw [ha.1, hb.1]) hb.2 ha.2 (fun j hj => (HH.out.2.2.2 j hj).symm) y x HX.out.2 HX.out.1 (by have := HXY.out; omega)
            omega
          · intro h
            exact numL_lt k a b (by rw [ha.1, hb.1]) ha.2 hb.2 HH.out.2.2.2 x y HX.out.1 HX.out.2 h
        exact ⟨by rw [e]; rfl, below_drewN (below_drewN HH.out.2.2.1 _) _⟩
    · obtain rfl : k = 16 := by omega
      go_wp2
      go_ret
      have e : decide (num a < num b) = false := by
        have hab : a = b := by
          refine List.ext_getElem? fun j => ?_
          by_cases hj : j < 16
          · exact HH.out.2.2.2 j hj
          · rw [List.getElem?_eq_none (by rw [ha.1]; omega), List.getElem?_eq_none (by rw [hb.1]; omega)]
        rw [hab]
        simp
      exact ⟨by rw [e]; rfl, HH.out.2.2.1⟩
end Go.Proofs.Ybulkadlc
