import Derived.Test.YbulkadlcFinger
namespace Go.Proofs.Ybulkadlc
set_option linter.unusedVariables false
set_option linter.unusedSimpArgs false

/-- The number that an ID holds. -/
def num (d : List Int) : Int := hiOf d * 18446744073709551616 + loOf d
def keyOf2 (a b : List Int) : Int := gapHi a b * 18446744073709551616 + gapLo a b
theorem num_bd {d : List Int} (h : IdOk d) : 0 ≤ num d ∧ num d < 340282366920938463463374607431768211456 := by
  have h1 := h.hi
  have h2 := h.lo
  unfold num
  omega
theorem keyOf2_eq {a b : List Int} (ha : IdOk a) (hb : IdOk b) : keyOf2 a b = (num b - num a) % 340282366920938463463374607431768211456 := by
  have h1 := ha.hi
  have h2 := ha.lo
  have h3 := hb.hi
  have h4 := hb.lo
  unfold keyOf2 num gapHi gapLo bor
  split <;> omega
theorem be8_byte (b : Nat → Int) (h : ∀ j, 0 ≤ b j ∧ b j ≤ 255) : b 7 = be8 b % 256 ∧ b 6 = be8 b / 256 % 256 ∧ b 5 = be8 b / 65536 % 256 ∧ b 4 = be8 b / 16777216 % 256 ∧ b 3 = be8 b / 4294967296 % 256 ∧
    b 2 = be8 b / 1099511627776 % 256 ∧ b 1 = be8 b / 281474976710656 % 256 ∧ b 0 = be8 b / 72057594037927936 % 256 := by
  have h0 := h 0; have h1 := h 1; have h2 := h 2; have h3 := h 3; have h4 := h 4; have h5 := h 5; have h6 := h 6; have h7 := h 7
  unfold be8
  refine ⟨?_, ?_, ?_, ?_, ?_, ?_, ?_, ?_⟩ <;> omega
theorem be8_inj (b c : Nat → Int) (h : ∀ j, 0 ≤ b j ∧ b j ≤ 255) (k : ∀ j, 0 ≤ c j ∧ c j ≤ 255) (he : be8 b = be8 c) : ∀ j, j < 8 → b j = c j := by
  obtain ⟨a7, a6, a5, a4, a3, a2, a1, a0⟩ := be8_byte b h
  obtain ⟨c7, c6, c5, c4, c3, c2, c1, c0⟩ := be8_byte c k
  rw [he] at a0 a1 a2 a3 a4 a5 a6 a7
  intro j hj
  match j, hj with
  | 0, _ => rw [a0, c0]
  | 1, _ => rw [a1, c1]
  | 2, _ => rw [a2, c2]
  | 3, _ => rw [a3, c3]
  | 4, _ => rw [a4, c4]
  | 5, _ => rw [a5, c5]
  | 6, _ => rw [a6, c6]
  | 7, _ => rw [a7, c7]
theorem num_inj {a b : List Int} (ha : IdOk a) (hb : IdOk b) (h : num a = num b) : a = b := by
  have h1 := ha.hi; have h2 := ha.lo; have h3 := hb.hi; have h4 := hb.lo
  unfold num at h
  have hh : hiOf a = hiOf b := by omega
  have hl : loOf a = loOf b := by omega
  have eh := be8_inj _ _ (fun j => ha.byte j) (fun j => hb.byte j) hh
  have el := be8_inj _ _ (fun j => ha.byte (8 + j)) (fun j => hb.byte (8 + j)) hl
  refine List.ext_getElem? fun i => ?_
  by_cases hi : i < 16
  · have e : a.getD i 0 = b.getD i 0 := by
      by_cases h8 : i < 8
      · exact eh i h8
      · have := el (i - 8) (by omega)
        rw [show 8 + (i - 8) = i by omega] at this
        exact this
    rw [List.getD_eq_getElem?_getD, List.getD_eq_getElem?_getD, List.getElem?_eq_getElem (by rw [ha.1]; exact hi), List.getElem?_eq_getElem (by rw [hb.1]; exact hi)] at e
    rw [List.getElem?_eq_getElem (by rw [ha.1]; exact hi), List.getElem?_eq_getElem (by rw [hb.1]; exact hi)]
    exact congrArg some e
  · rw [List.getElem?_eq_none (by rw [ha.1]; omega), List.getElem?_eq_none (by rw [hb.1]; omega)]

/-- The way round the ring: after (from me on) or before (to me). -/
def kd (me : List Int) (after : Bool) (d : List Int) : Int := if after then keyOf2 me d else keyOf2 d me
theorem kd_inj {me a b : List Int} {after : Bool} (hm : IdOk me) (ha : IdOk a) (hb : IdOk b) (h : kd me after a = kd me after b) : a = b := by
  have n1 := num_bd hm; have n2 := num_bd ha; have n3 := num_bd hb
  refine num_inj ha hb ?_
  unfold kd at h
  cases after with
  | true =>
    simp only [if_true] at h
    rw [keyOf2_eq hm ha, keyOf2_eq hm hb] at h
    omega
  | false =>
    simp only [Bool.false_eq_true, if_false] at h
    rw [keyOf2_eq ha hm, keyOf2_eq hb hm] at h
    omega
/-- before: the halves, compared. -/
theorem key_lt (a b c d : List Int) : (keyOf2 a b < keyOf2 c d) ↔ (gapHi a b < gapHi c d ∨ (gapHi a b = gapHi c d ∧ gapLo a b < gapLo c d)) := by
  have h1 := gapHi_bd a b; have h2 := gapLo_bd a b; have h3 := gapHi_bd c d; have h4 := gapLo_bd c d
  unfold keyOf2
  omega
end Go.Proofs.Ybulkadlc
