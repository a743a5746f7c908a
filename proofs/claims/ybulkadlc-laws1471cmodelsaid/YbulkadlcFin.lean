import Derived.Test.YbulkadlcCsb
import Derived.Test.YbulkadlcWrd
namespace Go.Proofs.Ybulkadlc
open Go.RowKit Go.QuietTail
set_option linter.unusedVariables false
set_option linter.unusedSimpArgs false

theorem num_ofW {h l : Int} (h0 : 0 ≤ h) (h1 : h < 18446744073709551616) (l0 : 0 ≤ l) (l1 : l < 18446744073709551616) : num (ofW h l) = h * 18446744073709551616 + l := by
  have e1 : hiOf (ofW h l) = h := by
    simp [hiOf, ofW, put8, zero16, be8]
    omega
  have e2 : loOf (ofW h l) = l := by
    simp [loOf, ofW, put8, zero16, be8]
    omega
  unfold num
  rw [e1, e2]
/-- to minus from round the ring, as an ID. -/
def sD (a b : List Int) : List Int := ofW ((num a - num b) % 340282366920938463463374607431768211456 / 18446744073709551616) ((num a - num b) % 340282366920938463463374607431768211456 % 18446744073709551616)
theorem sD_ok (a b : List Int) : IdOk (sD a b) := ofW_ok (by omega) (by omega) (by omega) (by omega)
theorem num_sD (a b : List Int) : num (sD a b) = (num a - num b) % 340282366920938463463374607431768211456 := by
  unfold sD
  rw [num_ofW (by omega) (by omega) (by omega) (by omega)]
  omega
theorem csub_at (W : World) (a b : List Int) (ha : IdOk a) (hb : IdOk b) (w : World) (hx : Below W.heap.size W w) :
    Calls Yba.prog 19 #[.agg (cellsId a).toArray, .agg (cellsId b).toArray] w fun e w' => e = .returned (.agg (cellsId (sD a b)).toArray) ∧ Below W.heap.size W w' := by
  refine (csub_any a b ha hb w).mono ?_
  rintro e w' ⟨⟨D, hD, hn, rfl⟩, hb'⟩
  have : D = sD a b := num_inj hD (sD_ok a b) (by rw [hn, num_sD])
  rw [this]
  exact ⟨rfl, hx.trans (hb'.mono hx.size)⟩
theorem less_at (W : World) (a b : List Int) (ha : IdOk a) (hb : IdOk b) (r : Bool) (hr : decide (num a < num b) = r) (w : World) (hx : Below W.heap.size W w) :
    Calls Yba.prog 18 #[.agg (cellsId a).toArray, .agg (cellsId b).toArray] w fun e w' => e = .returned (.bool r) ∧ Below W.heap.size W w' := by
  refine (less_any a b ha hb w).mono ?_
  rintro e w' ⟨rfl, hb'⟩
  exact ⟨by rw [hr], hx.trans (hb'.mono hx.size)⟩
theorem kd_true {me d : List Int} (hm : IdOk me) (hd : IdOk d) : kd me true d = num (sD d me) := by
  rw [num_sD]; exact keyOf2_eq hm hd
theorem kd_false {me d : List Int} (hm : IdOk me) (hd : IdOk d) : kd me false d = num (sD me d) := by
  rw [num_sD]; exact keyOf2_eq hd hm
end Go.Proofs.Ybulkadlc
