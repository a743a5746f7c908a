import Derived.Test.YbulkadjmFmtReaddr
import Derived.Test.YbulkadjmFmtPlain2
namespace Go.Proofs.YbulkadjmFmt

theorem getD_put16 (l : List Int) (o j : Nat) (x : Int) (hj : j ≠ o) (hj1 : j ≠ o + 1) : (put16 l o x).getD j 0 = l.getD j 0 := by
  unfold put16
  simp only [List.getD_eq_getElem?_getD]
  rw [List.getElem?_set_ne (by omega), List.getElem?_set_ne (by omega)]

theorem getD_lay_low (l q : List Int) (off j : Nat) (hl : off ≤ l.length) (hj : j < off) : (lay l off q).getD j 0 = l.getD j 0 := by
  unfold lay
  simp only [List.getD_eq_getElem?_getD]
  rw [List.getElem?_append_left (by simp; omega), List.getElem?_take_of_lt hj]

theorem getD_lay_high (l q : List Int) (off j : Nat) (hl : off + q.length ≤ l.length) (hj : off + q.length ≤ j) : (lay l off q).getD j 0 = l.getD j 0 := by
  unfold lay
  simp only [List.getD_eq_getElem?_getD]
  rw [List.getElem?_append_right (by simp; omega), List.getElem?_append_right (by simp; omega), List.getElem?_drop]
  congr 2
  simp
  omega

theorem getD_take (l : List Int) (n j : Nat) (hj : j < n) : (l.take n).getD j 0 = l.getD j 0 := by
  simp only [List.getD_eq_getElem?_getD]
  rw [List.getElem?_take_of_lt hj]

/-- The answer, readdressed, as findOPT meets it. -/
theorem answer_at (H A S q : List Int) (L : Nat) (id : Int) (hH : H.length = 12) (hA : A.length = q.length) (hL12 : 12 ≤ L) (hL : L ≤ 12 + q.length + S.length) :
    At (lay (put16 ((H ++ A ++ S).take L) 0 id) 12 (q.take (L - 12))) (12 + q.length) S ∧ ∀ j, 2 ≤ j → j < 12 → (lay (put16 ((H ++ A ++ S).take L) 0 id) 12 (q.take (L - 12))).getD j 0 = H.getD j 0 := by
  have hl0 : ((H ++ A ++ S).take L).length = L := by simp; omega
  have hp : (put16 ((H ++ A ++ S).take L) 0 id).length = L := by rw [put16_length, hl0]
  have hq : 12 + (q.take (L - 12)).length ≤ (put16 ((H ++ A ++ S).take L) 0 id).length := by rw [hp, List.length_take]; omega
  constructor
  · intro j hj hjl
    rw [lay_length _ _ _ hq, hp] at hjl
    rw [getD_lay_high _ _ _ _ hq (by rw [List.length_take]; omega), getD_put16 _ _ _ _ (by omega) (by omega), getD_take _ _ _ hjl]
    simp only [List.getD_eq_getElem?_getD]
    rw [List.getElem?_append_right (by simp; omega)]
    congr 2
    simp
    omega
  · intro j hj hj2
    rw [getD_lay_low _ _ _ _ (by rw [hp]; omega) hj2, getD_put16 _ _ _ _ (by omega) (by omega), getD_take _ _ _ (by omega)]
    simp only [List.getD_eq_getElem?_getD]
    rw [List.append_assoc, List.getElem?_append_left (by omega)]
end Go.Proofs.YbulkadjmFmt
