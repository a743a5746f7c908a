import Derived.Test.YbulkadlcLawC
import Derived.Test.YbulkadlcOpen
import Derived.ShutString
import Derived.SliceStrings
import Derived.ChangeOld
import Derived.ProofKit
import Derived.JoinedOf
namespace Go.Proofs.Ybulkadlc
open Go.ChangeShapes Go.WideShapes Go.ChangeAt Go.RowKit Go.Deep
set_option linter.unusedVariables false

theorem ownKnobNone : ownKnob Yba.prog.godebug = none := by kernel_rfl
theorem laidOut : laidOutB Yba.prog = true := by kernel_rfl
theorem Yba.cells73 : Yba.prog.cellsOf 73 = 3 := by kernel_rfl

section
variable {H : Type} {enc : TypeId × Value → H} {W : World} {held : Bool} {sp : Nat → Bool}
def stCells (z : Stp) : List Value := [.int .u64 z.hi, .int .u64 z.lo, .bool z.rm]
theorem st_cells {fuel : Nat} {cs : List Value} {x : DataW H × List MemPlace} (h : DataW.trod enc Yba.prog W 0 sp held fuel 73 cs = some x) : ∃ z, StOk z ∧ cs = stCells z := by
  obtain ⟨xs, m, rfl, _, hl, hx, hel⟩ := DataW.trod_struct Yba.underlying73 h
  rw [Yba.cells73] at hl
  have g0 : DataW.trod enc Yba.prog W 0 sp held m 35 ((cs.drop 0).take (Yba.prog.cellsOf 35)) = xs[0]? := hel 0 _ rfl
  have g1 : DataW.trod enc Yba.prog W 0 sp held m 35 ((cs.drop 1).take (Yba.prog.cellsOf 35)) = xs[1]? := hel 1 _ rfl
  have g2 : DataW.trod enc Yba.prog W 0 sp held m 4 ((cs.drop 2).take (Yba.prog.cellsOf 4)) = xs[2]? := hel 2 _ rfl
  have hx3 : xs.length = 3 := hx
  rw [List.getElem?_eq_getElem (by omega)] at g0 g1 g2
  simp only [Yba.cells35, Yba.cells4] at g0 g1 g2
  obtain ⟨e, he, _, we⟩ := DataW.trod_int Yba.underlying35 g0
  obtain ⟨o, ho, _, wo⟩ := DataW.trod_int Yba.underlying35 g1
  obtain ⟨b, hb, _⟩ := DataW.trod_bool Yba.underlying4 g2
  have b1 := bounds_u64 we
  have b2 := bounds_u64 wo
  refine ⟨⟨e, o, b⟩, ⟨⟨b1.1, by show e < _; omega⟩, ⟨b2.1, by show o < _; omega⟩⟩, ?_⟩
  have c0 := one_of_take he
  have c1 := one_of_take ho
  have c2 := one_of_take hb
  refine List.ext_getElem? fun i => ?_
  match i with
  | 0 => rw [c0]; rfl
  | 1 => rw [c1]; rfl
  | 2 => rw [c2]; rfl
  | i + 3 =>
    rw [List.getElem?_eq_none (by omega)]
    rfl

theorem sts_open {a : Option Addr} {len cap fuel : Nat} {x : DataW H × List MemPlace} (h : DataW.trod enc Yba.prog W 0 sp held fuel 45 [.slice a len cap] = some x) :
    ∃ zs : List Stp, zs.length = len ∧ (∀ z ∈ zs, StOk z) ∧ StIn W a zs := by
  rcases open_slice Yba.underlying45 h with ⟨hcs, _⟩ | ⟨y, l, c, m, n, D, Pl, hcs, _, hlc, hcm, hm, _, hel⟩
  · simp at hcs
    obtain ⟨rfl, rfl, rfl⟩ := hcs
    exact ⟨[], rfl, fun x hx => by simp at hx, fun h => by simp at h⟩
  · simp at hcs
    obtain ⟨rfl, rfl, rfl⟩ := hcs
    have hlm : len ≤ m := by rw [hm]; split <;> omega
    have : Inhabited Stp := ⟨⟨0, 0, false⟩⟩
    obtain ⟨S, hS⟩ := choose_lt (α := Stp) (n := len) (p := fun i d => StOk d ∧ ∀ t v, (stCells d)[t]? = some v → W.cell? (y.add (i * 3 + t)) = some v) (fun i hi => by
      obtain ⟨cs', h1, h2⟩ := hel i (by omega)
      rw [Yba.cells73] at h1
      obtain ⟨d, hd, rfl⟩ := st_cells h2
      obtain ⟨_, hl, hc⟩ := World.cells?_some h1
      refine ⟨d, hd, fun t v ht => ?_⟩
      have ht16 : t < 3 := by have := (List.getElem?_eq_some_iff.1 ht).1; simpa [stCells] using this
      rw [← Addr.add_add, hc t ht16]
      exact ht)
    refine ⟨(List.range len).map S, by simp, fun d hd => ?_, fun h0 => ?_⟩
    · obtain ⟨i, hi, rfl⟩ := List.mem_map.1 hd
      exact (hS i (List.mem_range.1 hi)).1
    · have h0' : 0 < len := by simpa using h0
      obtain ⟨b, o, spot⟩ := y
      have c0 : W.cell? ((⟨b, o, spot⟩ : Addr).add (0 * 3 + 0)) = some (.int .u64 (S 0).hi) := (hS 0 h0').2 0 _ rfl
      have hspot : spot = none := by simpa [Addr.add] using World.cell?_spot c0
      subst hspot
      refine ⟨b, o, rfl, ?_, fun j z hj => ?_⟩
      · have := block_lt_of_cell c0
        rw [Addr.add_mid] at this
        exact this
      · have hjl : j < len := by have := (List.getElem?_eq_some_iff.1 hj).1; simpa using this
        have e : S j = z := by simpa [hjl] using hj
        have c0 := (hS j hjl).2 0 _ rfl
        have c1 := (hS j hjl).2 1 _ rfl
        have c2 := (hS j hjl).2 2 _ rfl
        rw [Addr.add_mid, ← Nat.add_assoc, e] at c0 c1 c2
        exact ⟨c0, c1, c2⟩
end

set_option maxHeartbeats 1000000 in
theorem lawC_long (sh sl qh ql : Int) (a : Option Addr) (n c : Nat) (w : World) (h : 256 < n) :
    Calls Yba.prog 4 #[.int .u64 sh, .int .u64 sl, .slice a n c, .int .u64 qh, .int .u64 ql] w fun e w' => e = .returned (.bool true) ∧ Below w.heap.size w w' := by
  have h1' : (256 : Int) < (n : Int) := by omega
  go_enter Yba.func4, Yba.ntmps4
  go_wp2
  go_ret
  exact ⟨rfl, Below.refl _ _⟩

set_option maxRecDepth 100000 in
theorem lifted (os : Os) (started : os.Started) (H : Type) (enc : TypeId × Value → H) :
    ReturnsInHanded {} Yba.checked os 4 .any (Rows.lawS1471CModelSpec.pre6 enc Yba.prog Yba.f4 Rows.lawS1471CModelRow.domain false) (Rows.lawS1471CModelSpec.post enc Yba.prog Yba.f4 false true false false) := by
  refine returnsInHanded_of_change (C := Yba.checked) ownKnobNone started (by kernel_rfl) Yba.func4
    (ChangeSpec.witness6 (enc := enc) (C := Yba.checked) false ⟨#[], #[.int .u64 0, .int .u64 0, .slice none 0 0, .int .u64 0, .int .u64 0], []⟩ 8 (by kernel_rfl) (by kernel_rfl) (by kernel_rfl) (by kernel_rfl)) ?_
  intro W base args ds gs before hval0 hW hcnd _
  have hval : ∀ (j : Nat) t v, Yba.f4.params[j]? = some t → args[j]? = some v → Value.okWide Yba.prog W .any base t v := hval0
  have hW' := hW
  obtain ⟨p, q, hA0, hV, rfl, hfz, hnd⟩ := hW
  have hA : DataW.TrodAll enc Yba.prog W 0 (fun _ => true) true Yba.f4.params.toList args.toList ds p := hA0
  rw [Yba.params4] at hA hval
  obtain ⟨v0, vs0, d0, ds0, p0, q0, hargs, rfl, rfl, h0, r0⟩ := trodAll_cons hA
  obtain ⟨v1, vs1, d1, ds1, p1, q1, rfl, rfl, rfl, h1, r1⟩ := trodAll_cons r0
  obtain ⟨v2, vs2, d2, ds2, p2, q2, rfl, rfl, rfl, h2, r2⟩ := trodAll_cons r1
  obtain ⟨v3, vs3, d3, ds3, p3, q3, rfl, rfl, rfl, h3, r3⟩ := trodAll_cons r2
  obtain ⟨v4, vs4, d4, ds4, p4, q4, rfl, rfl, rfl, h4, r4⟩ := trodAll_cons r3
  obtain ⟨rfl, rfl, rfl⟩ := trodAll_nil r4
  obtain rfl : args = #[v0, v1, v2, v3, v4] := by cases args; simp_all
  obtain ⟨rfl, rfl⟩ := trodVars_none hV
  have k0 := h0
  have k1 := h1
  have k2 := h2
  have k3 := h3
  have k4 := h4
  have lt0 : ∀ x ∈ p0, x.block < W.heap.size := by obtain ⟨m, hm⟩ := k0; exact DataW.trod_lt m _ _ _ hm
  have lt1 : ∀ x ∈ p1, x.block < W.heap.size := by obtain ⟨m, hm⟩ := k1; exact DataW.trod_lt m _ _ _ hm
  have lt2 : ∀ x ∈ p2, x.block < W.heap.size := by obtain ⟨m, hm⟩ := k2; exact DataW.trod_lt m _ _ _ hm
  have lt3 : ∀ x ∈ p3, x.block < W.heap.size := by obtain ⟨m, hm⟩ := k3; exact DataW.trod_lt m _ _ _ hm
  have lt4 : ∀ x ∈ p4, x.block < W.heap.size := by obtain ⟨m, hm⟩ := k4; exact DataW.trod_lt m _ _ _ hm
  obtain ⟨a2, len2, cap2, rfl⟩ := okWide_slice Yba.underlying45 (hval 2 45 v2 rfl rfl)
  obtain ⟨n0, rfl, rfl, rfl, w0⟩ := open_int Yba.underlying35 (hval 0 35 v0 rfl rfl) h0
  obtain ⟨n1, rfl, rfl, rfl, w1⟩ := open_int Yba.underlying35 (hval 1 35 v1 rfl rfl) h1
  obtain ⟨n3, rfl, rfl, rfl, w3⟩ := open_int Yba.underlying35 (hval 3 35 v3 rfl rfl) h3
  obtain ⟨n4, rfl, rfl, rfl, w4⟩ := open_int Yba.underlying35 (hval 4 35 v4 rfl rfl) h4
  have b0 := bounds_u64 w0
  have b1 := bounds_u64 w1
  have b3 := bounds_u64 w3
  have b4 := bounds_u64 w4
  obtain ⟨zs, hzn, hzs, hZ⟩ : ∃ zs : List Stp, zs.length = len2 ∧ (∀ z ∈ zs, StOk z) ∧ StIn W a2 zs := by
    obtain ⟨fuel, hf⟩ := h2
    exact sts_open (by simpa [Value.cells] using hf)
  clear hA0 hval0
  have key : Calls Yba.prog 4 #[.int .u64 n0, .int .u64 n1, .slice a2 len2 cap2, .int .u64 n3, .int .u64 n4] W fun e w' => e = .returned (.bool true) ∧ Below W.heap.size W w' := by
    by_cases hlong : 256 < len2
    · exact lawC_long n0 n1 n3 n4 a2 len2 cap2 W hlong
    · exact lawC_walk n0 n1 n3 n4 a2 len2 cap2 zs W (by omega) (by omega) (by omega) (by omega) (by omega) (by omega) (by omega) (by omega) hzs hzn (by omega) hZ
  refine key.mono fun e W' ⟨he, bel⟩ => ?_
  subst he
  exact ⟨_, rfl, _, _, _, [], _, [], hW', trodAll_mk1 (shut_bool Yba.underlying4 _),
    (trodAll_cons_mk (Below.trod laidOut (by kernel_rfl) (of_decide_eq_true (by kernel_rfl)) k0 bel lt0) (trodAll_cons_mk (Below.trod laidOut (by kernel_rfl) (of_decide_eq_true (by kernel_rfl)) k1 bel lt1)
      (trodAll_cons_mk (Below.trod laidOut (by kernel_rfl) (of_decide_eq_true (by kernel_rfl)) k2 bel lt2) (trodAll_cons_mk (Below.trod laidOut (by kernel_rfl) (of_decide_eq_true (by kernel_rfl)) k3 bel lt3)
        (trodAll_cons_mk (Below.trod laidOut (by kernel_rfl) (of_decide_eq_true (by kernel_rfl)) k4 bel lt4) trodAll_mk0))))),
    rfl, bel.frame _, fun h => by cases h⟩

theorem over : Rows.lawS1471CModelRow.holds Yba.pinned (OpenSpec.ofChange Rows.lawS1471CModelSpec) :=
  OpenClaim.holds_of_wide 4 Yba.f4 rfl rfl rfl rfl rfl rfl rfl ⟨rfl, rfl, rfl, rfl, rfl⟩ rfl rfl rfl rfl rfl (by kernel_rfl) Yba.func4 (by kernel_rfl)
    (of_decide_eq_true (by kernel_rfl)) (by unfold Func.isWrapper; first | (rw [if_pos (by decide +kernel)]; kernel_rfl) | (rw [if_neg (by decide +kernel)]; exact ⟨rfl, rfl⟩))
    (fun os started H enc _ => lifted os started H enc)

theorem lawS1471CModel.proved : Rows.LawS1471CModelSaid := over

end Go.Proofs.Ybulkadlc
