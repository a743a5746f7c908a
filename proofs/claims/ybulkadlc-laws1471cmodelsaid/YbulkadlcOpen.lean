import Derived.Test.YbulkadlcIn
import Derived.OpenShut
import Derived.ChangeArms
import Derived.Deep.Slices
import Derived.Deep.Grids
import Derived.ShutString
import Derived.SliceStrings
import Derived.ChangeOld
import Derived.ChangeAt
namespace Go.Proofs.Ybulkadlc
open Go.ChangeShapes Go.WideShapes Go.ChangeAt Go.RowKit Go.Deep
set_option linter.unusedVariables false
set_option linter.unusedSimpArgs false

theorem Yba.cells23 : Yba.prog.cellsOf 23 = 16 := by kernel_rfl
theorem Yba.cells5 : Yba.prog.cellsOf 5 = 1 := by kernel_rfl
theorem Yba.cells37 : Yba.prog.cellsOf 37 = 19 := by kernel_rfl
theorem Yba.cells35 : Yba.prog.cellsOf 35 = 1 := by kernel_rfl
theorem Yba.cells4 : Yba.prog.cellsOf 4 = 1 := by kernel_rfl

def numb : Value → Int
  | .int _ n => n
  | _ => 0
theorem one_of_take {cs : List Value} {i : Nat} {v : Value} (h : (cs.drop i).take 1 = [v]) : cs[i]? = some v := by
  have : ((cs.drop i).take 1)[0]? = some v := by rw [h]; rfl
  rw [List.getElem?_take, if_pos (by omega), List.getElem?_drop] at this
  simpa using this

section
variable {H : Type} {enc : TypeId × Value → H} {W : World} {held : Bool} {sp : Nat → Bool}
theorem id_cells {fuel : Nat} {cs : List Value} {x : DataW H × List MemPlace} (h : DataW.trod enc Yba.prog W 0 sp held fuel 23 cs = some x) : ∃ d, IdOk d ∧ cs = cellsId d := by
  obtain ⟨xs, m, rfl, _, hl, hx, hel⟩ := DataW.trod_array Yba.underlying23 h
  rw [Yba.cells23] at hl
  have each : ∀ i, i < 16 → ∃ n, cs[i]? = some (.int .u8 n) ∧ 0 ≤ n ∧ n ≤ 255 := fun i hi => by
    have h1 := hel i hi
    rw [Yba.cells5, Nat.mul_one, List.getElem?_eq_getElem (by omega)] at h1
    obtain ⟨n, hn, _, hw⟩ := DataW.trod_int Yba.underlying5 h1
    exact ⟨n, one_of_take hn, bounds_u8 hw⟩
  refine ⟨cs.map numb, ⟨by simpa using hl, fun y hy => ?_⟩, ?_⟩
  · obtain ⟨v, hv, rfl⟩ := List.mem_map.1 hy
    obtain ⟨i, hi⟩ := List.getElem?_of_mem hv
    have hi16 : i < 16 := by have := (List.getElem?_eq_some_iff.1 hi).1; omega
    obtain ⟨n, hn, h0, h1⟩ := each i hi16
    rw [hi] at hn
    cases hn
    exact ⟨h0, h1⟩
  · refine List.ext_getElem? fun i => ?_
    simp only [cellsId, List.getElem?_map]
    by_cases hi : i < 16
    · obtain ⟨n, hn, _⟩ := each i hi
      rw [hn]; rfl
    · rw [List.getElem?_eq_none (by omega)]; rfl

theorem ids_open {a : Option Addr} {len cap fuel : Nat} {x : DataW H × List MemPlace} (h : DataW.trod enc Yba.prog W 0 sp held fuel 24 [.slice a len cap] = some x) :
    ∃ ss : List (List Int), ss.length = len ∧ IsOk ss ∧ IdsIn W a ss ∧ (a = none → cap = 0) ∧ len ≤ 9223372036854775807 := by
  rcases open_slice Yba.underlying24 h with ⟨hcs, _⟩ | ⟨y, l, c, m, n, D, Pl, hcs, _, hlc, hcm, hm, _, hel⟩
  · simp at hcs
    obtain ⟨rfl, rfl, rfl⟩ := hcs
    exact ⟨[], rfl, fun x hx => by simp at hx, ⟨fun _ => rfl, fun ad had => by cases had⟩, fun _ => rfl, by omega⟩
  · simp at hcs
    obtain ⟨rfl, rfl, rfl⟩ := hcs
    have hlm : len ≤ m := by rw [hm]; split <;> omega
    obtain ⟨S, hS⟩ := choose_lt (α := List Int) (n := len) (p := fun i d => IdOk d ∧ ∀ t v, (cellsId d)[t]? = some v → W.cell? (y.add (i * 16 + t)) = some v) (fun i hi => by
      obtain ⟨cs', h1, h2⟩ := hel i (by omega)
      rw [Yba.cells23] at h1
      obtain ⟨d, hd, rfl⟩ := id_cells h2
      obtain ⟨_, hl, hc⟩ := World.cells?_some h1
      refine ⟨d, hd, fun t v ht => ?_⟩
      have ht16 : t < 16 := by have := (List.getElem?_eq_some_iff.1 ht).1; omega
      rw [← Addr.add_add, hc t ht16]
      exact ht)
    have hok : IsOk ((List.range len).map S) := fun d hd => by
      obtain ⟨i, hi, rfl⟩ := List.mem_map.1 hd
      exact (hS i (List.mem_range.1 hi)).1
    refine ⟨(List.range len).map S, by simp, hok, ⟨fun h => (by cases h), fun ad had j u hj => ?_⟩, fun h => (by cases h), by unfold maxLen at hcm; omega⟩
    cases had
    have hjl : j < len * 16 := by
      have := (List.getElem?_eq_some_iff.1 hj).1
      rw [flatI_len hok] at this
      simpa using this
    have e : j = j / 16 * 16 + j % 16 := by omega
    have hi : j / 16 < len := by omega
    have hx : ((List.range len).map S)[j / 16]? = some (S (j / 16)) := by simp [hi]
    rw [e, flatI_at hok hx (by omega)] at hj
    rw [e]
    exact (hS _ hi).2 _ _ hj

theorem z_cells {fuel : Nat} {cs : List Value} {x : DataW H × List MemPlace} (h : DataW.trod enc Yba.prog W 0 sp held fuel 37 cs = some x) : ∃ z, ZOk z ∧ cs = zCells z := by
  obtain ⟨xs, m, rfl, _, hl, hx, hel⟩ := DataW.trod_struct Yba.underlying37 h
  rw [Yba.cells37] at hl
  have g0 : DataW.trod enc Yba.prog W 0 sp held m 5 ((cs.drop 0).take (Yba.prog.cellsOf 5)) = xs[0]? := hel 0 _ rfl
  have g1 : DataW.trod enc Yba.prog W 0 sp held m 35 ((cs.drop 1).take (Yba.prog.cellsOf 35)) = xs[1]? := hel 1 _ rfl
  have g2 : DataW.trod enc Yba.prog W 0 sp held m 4 ((cs.drop 2).take (Yba.prog.cellsOf 4)) = xs[2]? := hel 2 _ rfl
  have g3 : DataW.trod enc Yba.prog W 0 sp held m 23 ((cs.drop 3).take (Yba.prog.cellsOf 23)) = xs[3]? := hel 3 _ rfl
  have hx4 : xs.length = 4 := hx
  rw [List.getElem?_eq_getElem (by omega)] at g0 g1 g2 g3
  simp only [Yba.cells5, Yba.cells35, Yba.cells4, Yba.cells23] at g0 g1 g2 g3
  obtain ⟨e, he, _, we⟩ := DataW.trod_int Yba.underlying5 g0
  obtain ⟨o, ho, _, wo⟩ := DataW.trod_int Yba.underlying35 g1
  obtain ⟨b, hb, _⟩ := DataW.trod_bool Yba.underlying4 g2
  obtain ⟨d, hd, hdc⟩ := id_cells g3
  have b1 := bounds_u8 we
  have b2 := bounds_u64 wo
  refine ⟨⟨e, o, b, d⟩, ⟨b1, ⟨b2.1, by show o < _; omega⟩, hd⟩, ?_⟩
  have c0 := one_of_take he
  have c1 := one_of_take ho
  have c2 := one_of_take hb
  refine List.ext_getElem? fun i => ?_
  match i with
  | 0 => rw [c0]; rfl
  | 1 => rw [c1]; rfl
  | 2 => rw [c2]; rfl
  | i + 3 =>
    show _ = (cellsId d)[i]?
    rw [← hdc, List.getElem?_take, List.getElem?_drop, Nat.add_comm 3 i]
    split
    · rfl
    · rw [List.getElem?_eq_none (by omega)]

theorem zs_open {a : Option Addr} {len cap fuel : Nat} {x : DataW H × List MemPlace} (h : DataW.trod enc Yba.prog W 0 sp held fuel 25 [.slice a len cap] = some x) :
    ∃ zs : List Zz, zs.length = len ∧ (∀ z ∈ zs, ZOk z) ∧ ZsIn W a zs ∧ len ≤ 9223372036854775807 := by
  rcases open_slice Yba.underlying25 h with ⟨hcs, _⟩ | ⟨y, l, c, m, n, D, Pl, hcs, _, hlc, hcm, hm, _, hel⟩
  · simp at hcs
    obtain ⟨rfl, rfl, rfl⟩ := hcs
    exact ⟨[], rfl, fun x hx => by simp at hx, fun h => by simp at h, by omega⟩
  · simp at hcs
    obtain ⟨rfl, rfl, rfl⟩ := hcs
    have hlm : len ≤ m := by rw [hm]; split <;> omega
    have : Inhabited Zz := ⟨⟨0, 0, false, []⟩⟩
    obtain ⟨S, hS⟩ := choose_lt (α := Zz) (n := len) (p := fun i d => ZOk d ∧ ∀ t v, (zCells d)[t]? = some v → W.cell? (y.add (i * 19 + t)) = some v) (fun i hi => by
      obtain ⟨cs', h1, h2⟩ := hel i (by omega)
      rw [Yba.cells37] at h1
      obtain ⟨d, hd, rfl⟩ := z_cells h2
      obtain ⟨_, hl, hc⟩ := World.cells?_some h1
      refine ⟨d, hd, fun t v ht => ?_⟩
      have ht16 : t < 19 := by have := (List.getElem?_eq_some_iff.1 ht).1; omega
      rw [← Addr.add_add, hc t ht16]
      exact ht)
    refine ⟨(List.range len).map S, by simp, fun d hd => ?_, fun h0 => ?_, by unfold maxLen at hcm; omega⟩
    · obtain ⟨i, hi, rfl⟩ := List.mem_map.1 hd
      exact (hS i (List.mem_range.1 hi)).1
    · have h0' : 0 < len := by simpa using h0
      obtain ⟨b, o, spot⟩ := y
      have c0 : W.cell? ((⟨b, o, spot⟩ : Addr).add (0 * 19 + 0)) = some (.int .u8 (S 0).e) := (hS 0 h0').2 0 _ rfl
      have hspot : spot = none := by simpa [Addr.add] using World.cell?_spot c0
      subst hspot
      refine ⟨b, o, rfl, ?_, fun j z hj t v ht => ?_⟩
      · have := block_lt_of_cell c0
        rw [Addr.add_mid] at this
        exact this
      · have hjl : j < len := by have := (List.getElem?_eq_some_iff.1 hj).1; simpa using this
        have e : S j = z := by simpa [hjl] using hj
        have := (hS j hjl).2 t v (by rw [e]; exact ht)
        rw [Addr.add_mid, ← Nat.add_assoc] at this
        exact this

theorem bs_open {a : Option Addr} {len cap fuel : Nat} {x : DataW H × List MemPlace} (h : DataW.trod enc Yba.prog W 0 (fun _ => true) held fuel 26 [.slice a len cap] = some x) :
    ∃ bs : List Bool, bs.length = len ∧ BsIn W a bs ∧ len ≤ 9223372036854775807 := by
  rcases open_bools Yba.underlying26 Yba.underlying4 (by kernel_rfl) h with ⟨hcs, _⟩ | ⟨y, l, c, B, hcs, _, hlc, hcm, _, hel⟩
  · simp at hcs
    obtain ⟨rfl, rfl, rfl⟩ := hcs
    exact ⟨[], rfl, fun h => by simp at h, by omega⟩
  · simp at hcs
    obtain ⟨rfl, rfl, rfl⟩ := hcs
    refine ⟨(List.range len).map B, by simp, fun h0 => ?_, by unfold maxLen at hcm; omega⟩
    have h0' : 0 < len := by simpa using h0
    obtain ⟨b, o, spot⟩ := y
    have c0 := hel 0 (by omega)
    have hspot : spot = none := by simpa [Addr.add] using World.cell?_spot c0
    subst hspot
    refine ⟨b, o, rfl, ?_, fun j hj => ?_⟩
    · have := block_lt_of_cell c0
      rw [Addr.add_mid] at this
      exact this
    · have hjl : j < len := by simpa using hj
      have := hel j (by omega)
      rw [Addr.add_mid] at this
      rw [this]
      simp [hjl]
end
end Go.Proofs.Ybulkadlc
