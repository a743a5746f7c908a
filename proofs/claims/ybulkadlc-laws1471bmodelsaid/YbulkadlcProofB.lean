import Derived.Test.YbulkadlcLawB
import Derived.Test.YbulkadlcOpen
import Derived.ShutString
import Derived.SliceStrings
import Derived.ChangeOld
import Derived.ProofKit
import Derived.JoinedOf
namespace Go.Proofs.Ybulkadlc
open Go.ChangeShapes Go.WideShapes Go.ChangeAt Go.RowKit Go.Deep
set_option linter.unusedVariables false

theorem ownKnobNone : ownKnob Yba.prog.godebug = none := by kernel_rfl
theorem laidOut : laidOutB Yba.prog = true := by kernel_rfl

set_option maxHeartbeats 1000000 in
theorem lawB_long (me : List Int) (sp fp cp : Option Addr) (sn sc fn fc cn cc : Nat) (w : World) (h : 1024 < sn ∨ 1024 < fn ∨ 1024 < cn) :
    Calls Yba.prog 3 #[idv me, .slice sp sn sc, .slice fp fn fc, .slice cp cn cc] w fun e w' => e = .returned (.bool true) ∧ Below w.heap.size w w' := by
  have hB : Below w.heap.size w ((w.alloc (.cells (cellsId me).toArray 23)).alloc (.cells #[.slice cp cn cc] 26)) := ((Below.refl _ w).alloc (Nat.le_refl _) _).alloc (by simp) _
  unfold idv
  by_cases h1 : 1024 < sn
  · have h1' : (1024 : Int) < (sn : Int) := by omega
    go_enter Yba.func3, Yba.ntmps3
    go_wp2
    go_ret
    exact ⟨rfl, hB⟩
  · have h1' : ¬ (1024 : Int) < (sn : Int) := by omega
    by_cases h2 : 1024 < fn
    · have h2' : (1024 : Int) < (fn : Int) := by omega
      go_enter Yba.func3, Yba.ntmps3
      go_wp2
      go_ret
      exact ⟨rfl, hB⟩
    · have h2' : ¬ (1024 : Int) < (fn : Int) := by omega
      have h3' : (1024 : Int) < (cn : Int) := by omega
      go_enter Yba.func3, Yba.ntmps3
      go_wp2
      go_ret
      exact ⟨rfl, hB⟩

set_option maxRecDepth 100000 in
theorem lifted (os : Os) (started : os.Started) (H : Type) (enc : TypeId × Value → H) :
    ReturnsInHanded {} Yba.checked os 3 .any (Rows.lawS1471BModelSpec.pre6 enc Yba.prog Yba.f3 Rows.lawS1471BModelRow.domain false) (Rows.lawS1471BModelSpec.post enc Yba.prog Yba.f3 false true false false) := by
  refine returnsInHanded_of_change (C := Yba.checked) ownKnobNone started (by kernel_rfl) Yba.func3
    (ChangeSpec.witness6 (enc := enc) (C := Yba.checked) false ⟨#[], #[idv zero16, .slice none 0 0, .slice none 0 0, .slice none 0 0], []⟩ 8 (by kernel_rfl) (by kernel_rfl) (by kernel_rfl) (by kernel_rfl)) ?_
  intro W base args ds gs before hval0 hW hcnd _
  have hval : ∀ (j : Nat) t v, Yba.f3.params[j]? = some t → args[j]? = some v → Value.okWide Yba.prog W .any base t v := hval0
  have hW' := hW
  obtain ⟨p, q, hA0, hV, rfl, hfz, hnd⟩ := hW
  have hA : DataW.TrodAll enc Yba.prog W 0 (fun _ => true) true Yba.f3.params.toList args.toList ds p := hA0
  rw [Yba.params3] at hA hval
  obtain ⟨v0, vs0, d0, ds0, p0, q0, hargs, rfl, rfl, h0, r0⟩ := trodAll_cons hA
  obtain ⟨v1, vs1, d1, ds1, p1, q1, rfl, rfl, rfl, h1, r1⟩ := trodAll_cons r0
  obtain ⟨v2, vs2, d2, ds2, p2, q2, rfl, rfl, rfl, h2, r2⟩ := trodAll_cons r1
  obtain ⟨v3, vs3, d3, ds3, p3, q3, rfl, rfl, rfl, h3, r3⟩ := trodAll_cons r2
  obtain ⟨rfl, rfl, rfl⟩ := trodAll_nil r3
  obtain rfl : args = #[v0, v1, v2, v3] := by cases args; simp_all
  obtain ⟨rfl, rfl⟩ := trodVars_none hV
  obtain ⟨me, hme, rfl⟩ : ∃ me, IdOk me ∧ v0 = idv me := by
    have hk := hval 0 23 v0 rfl rfl
    simp only [Value.okWide, Yba.underlying23] at hk
    obtain ⟨cs, e1, _⟩ := hk
    subst e1
    obtain ⟨fuel, hf⟩ := h0
    obtain ⟨d, hd, e2⟩ := id_cells hf
    have e3 : cs.toList = cellsId d := by simpa [Value.cells] using e2
    refine ⟨d, hd, ?_⟩
    unfold idv
    rw [← e3]
  obtain ⟨a1, len1, cap1, rfl⟩ := okWide_slice Yba.underlying24 (hval 1 24 v1 rfl rfl)
  obtain ⟨a2, len2, cap2, rfl⟩ := okWide_slice Yba.underlying25 (hval 2 25 v2 rfl rfl)
  obtain ⟨a3, len3, cap3, rfl⟩ := okWide_slice Yba.underlying26 (hval 3 26 v3 rfl rfl)
  have k0 := h0
  have k1 := h1
  have k2 := h2
  have k3 := h3
  have lt0 : ∀ x ∈ p0, x.block < W.heap.size := by obtain ⟨m, hm⟩ := k0; exact DataW.trod_lt m _ _ _ hm
  have lt1 : ∀ x ∈ p1, x.block < W.heap.size := by obtain ⟨m, hm⟩ := k1; exact DataW.trod_lt m _ _ _ hm
  have lt2 : ∀ x ∈ p2, x.block < W.heap.size := by obtain ⟨m, hm⟩ := k2; exact DataW.trod_lt m _ _ _ hm
  have lt3 : ∀ x ∈ p3, x.block < W.heap.size := by obtain ⟨m, hm⟩ := k3; exact DataW.trod_lt m _ _ _ hm
  obtain ⟨ss, hsn, hss, hS, hs0, _⟩ : ∃ ss : List (List Int), ss.length = len1 ∧ IsOk ss ∧ IdsIn W a1 ss ∧ (a1 = none → cap1 = 0) ∧ len1 ≤ 9223372036854775807 := by
    obtain ⟨fuel, hf⟩ := h1
    exact ids_open (by simpa [Value.cells] using hf)
  obtain ⟨zs, hfn, hzs, hZ, _⟩ : ∃ zs : List Zz, zs.length = len2 ∧ (∀ z ∈ zs, ZOk z) ∧ ZsIn W a2 zs ∧ len2 ≤ 9223372036854775807 := by
    obtain ⟨fuel, hf⟩ := h2
    exact zs_open (by simpa [Value.cells] using hf)
  obtain ⟨bs, hcn, hC, _⟩ : ∃ bs : List Bool, bs.length = len3 ∧ BsIn W a3 bs ∧ len3 ≤ 9223372036854775807 := by
    obtain ⟨fuel, hf⟩ := h3
    exact bs_open (by simpa [Value.cells] using hf)
  clear hA0 hval0
  have key : Calls Yba.prog 3 #[idv me, .slice a1 len1 cap1, .slice a2 len2 cap2, .slice a3 len3 cap3] W fun e w' => e = .returned (.bool true) ∧ Below W.heap.size W w' := by
    by_cases hlong : 1024 < len1 ∨ 1024 < len2 ∨ 1024 < len3
    · exact lawB_long me a1 a2 a3 len1 cap1 len2 cap2 len3 cap3 W hlong
    · exact lawB_walk me a1 a2 a3 len1 cap1 len2 cap2 len3 cap3 ss zs bs W hme hss hsn hs0 hS hzs hfn hZ hcn hC (by omega) (by omega) (by omega)
  refine key.mono fun e W' ⟨he, bel⟩ => ?_
  subst he
  exact ⟨_, rfl, _, _, _, [], _, [], hW', trodAll_mk1 (shut_bool Yba.underlying4 _),
    (trodAll_cons_mk (Below.trod laidOut (by kernel_rfl) (of_decide_eq_true (by kernel_rfl)) k0 bel lt0) (trodAll_cons_mk (Below.trod laidOut (by kernel_rfl) (of_decide_eq_true (by kernel_rfl)) k1 bel lt1)
      (trodAll_cons_mk (Below.trod laidOut (by kernel_rfl) (of_decide_eq_true (by kernel_rfl)) k2 bel lt2) (trodAll_cons_mk (Below.trod laidOut (by kernel_rfl) (of_decide_eq_true (by kernel_rfl)) k3 bel lt3) trodAll_mk0)))),
    rfl, bel.frame _, fun h => by cases h⟩

theorem over : Rows.lawS1471BModelRow.holds Yba.pinned (OpenSpec.ofChange Rows.lawS1471BModelSpec) :=
  OpenClaim.holds_of_wide 3 Yba.f3 rfl rfl rfl rfl rfl rfl rfl ⟨rfl, rfl, rfl, rfl, rfl⟩ rfl rfl rfl rfl rfl (by kernel_rfl) Yba.func3 (by kernel_rfl)
    (of_decide_eq_true (by kernel_rfl)) (by unfold Func.isWrapper; first | (rw [if_pos (by decide +kernel)]; kernel_rfl) | (rw [if_neg (by decide +kernel)]; exact ⟨rfl, rfl⟩))
    (fun os started H enc _ => lifted os started H enc)

theorem lawS1471BModel.proved : Rows.LawS1471BModelSaid := over
#print axioms lawS1471BModel.proved
end Go.Proofs.Ybulkadlc
