/- LawS1479BMerge: the row's frame (as the guide's slice shell lays it) round the walk (YbulkadpkMerge.lean). -/
import Derived.Test.YbulkadpkMerge
import Derived.ShutString
import Derived.SliceStrings
import Derived.ChangeOld
namespace Go.Proofs.Ybulkadpk
open Go.ChangeShapes Go.WideShapes Go.ChangeAt Go.RowKit
set_option linter.unusedVariables false

theorem ownKnobNone : ownKnob Yba.prog.godebug = none := by kernel_rfl
theorem laidOut : laidOutB Yba.prog = true := by kernel_rfl

theorem law_long (am av ak : Option Addr) (cm cv ck n ls lk : Nat) (km : Int) (w : World) (hn : 512 < n) :
    Calls Yba.prog 3 #[.slice am n cm, .slice av ls cv, .int .u8 km, .slice ak lk ck] w fun e w' => e = .returned (.bool true) ∧ Below w.heap.size w w' := by
  have h1 : (512 : Int) < (n : Int) := by omega
  go_enter Yba.func3, Yba.ntmps3
  go_wp2
  go_ret
  exact ⟨rfl, Below.refl _ _⟩

section
variable {H : Type} {enc : TypeId × Value → H} {W : World} {held : Bool}
theorem strs_open {a : Option Addr} {len cap fuel : Nat} {x : DataW H × List MemPlace} (h : DataW.trod enc Yba.prog W 0 (fun _ => true) held fuel 23 [.slice a len cap] = some x) :
    ∃ ss : List ByteArray, ss.length = len ∧ Strs W a ss ∧ len ≤ 9223372036854775807 := by
  rcases open_strings Yba.underlying23 Yba.underlying9 (by kernel_rfl) h with ⟨hcs, _⟩ | ⟨y, l, c, ss, hcs, _, hl, hm, hz, _, hcell, _⟩
  · simp at hcs
    obtain ⟨rfl, rfl, rfl⟩ := hcs
    exact ⟨[], rfl, fun h => by simp at h, by omega⟩
  · simp at hcs
    obtain ⟨rfl, rfl, rfl⟩ := hcs
    obtain ⟨b, o, spot⟩ := y
    have hlen : len ≤ ss.length := by rw [hz]; simpa using hl
    refine ⟨ss.take len, by simp; omega, fun h0 => ?_, by unfold maxLen at hm; omega⟩
    have h0' : 0 < len := by simp at h0; omega
    have hc := hcell 0 (by omega)
    have hspot : spot = none := by simpa [Addr.add] using World.cell?_spot hc
    subst hspot
    refine ⟨b, o, rfl, fun i hi => ?_⟩
    have hi' : i < len := by simp at hi; omega
    have hci := hcell i (by omega)
    have e : (ss.take len).getD i ByteArray.empty = ss.getD i ByteArray.empty := by
      simp only [List.getD_eq_getElem?_getD]; rw [List.getElem?_take_of_lt hi']
    rw [e]
    cases i with
    | zero => simpa [Addr.add] using hci
    | succ i => simpa [Addr.add] using hci
theorem masks_open {a : Option Addr} {len cap fuel : Nat} {x : DataW H × List MemPlace} (h : DataW.trod enc Yba.prog W 0 (fun _ => true) held fuel 22 [.slice a len cap] = some x) :
    ∃ ms : List Nat, ms.length = len ∧ Masks W a ms ∧ ∀ m ∈ ms, m < 256 := by
  rcases open_ints Yba.underlying22 Yba.underlying5 (by kernel_rfl) h with ⟨hcs, _⟩ | ⟨y, l, c, zs, hcs, _, hl, hm, hz, _, hcell, hwz⟩
  · simp at hcs
    obtain ⟨rfl, rfl, rfl⟩ := hcs
    exact ⟨[], rfl, fun h => by simp at h, by simp⟩
  · simp at hcs
    obtain ⟨rfl, rfl, rfl⟩ := hcs
    obtain ⟨b, o, spot⟩ := y
    have hlen : len ≤ zs.length := by rw [hz]; simpa using hl
    refine ⟨(zs.take len).map Int.toNat, by simp; omega, fun h0 => ?_, fun m hm' => ?_⟩
    · have h0' : 0 < len := by simp at h0; omega
      have hc := hcell 0 (by omega)
      have hspot : spot = none := by simpa [Addr.add] using World.cell?_spot hc
      subst hspot
      refine ⟨b, o, rfl, fun i hi => ?_⟩
      have hi' : i < len := by simp at hi; omega
      have hci := hcell i (by omega)
      have hb := bounds_u8 (hwz _ (List.getElem_mem (show i < zs.length by omega)))
      have e : ((((zs.take len).map Int.toNat).getD i 0 : Nat) : Int) = zs.getD i 0 := by
        simp only [List.getD_eq_getElem?_getD, List.getElem?_map]
        rw [List.getElem?_take_of_lt hi', List.getElem?_eq_getElem (by omega)]
        simp; omega
      rw [e]
      cases i with
      | zero => simpa [Addr.add] using hci
      | succ i => simpa [Addr.add] using hci
    · obtain ⟨z, hz', rfl⟩ := List.mem_map.1 hm'
      have := bounds_u8 (hwz z (List.mem_of_mem_take hz'))
      omega
end

set_option maxRecDepth 100000 in
theorem lifted (os : Os) (started : os.Started) (H : Type) (enc : TypeId × Value → H) :
    ReturnsInHanded {} Yba.checked os 3 .any (Rows.lawS1479BMergeSpec.pre6 enc Yba.prog Yba.f3 Rows.lawS1479BMergeRow.domain false) (Rows.lawS1479BMergeSpec.post enc Yba.prog Yba.f3 false true false false) := by
  refine returnsInHanded_of_change (C := Yba.checked) ownKnobNone started (by kernel_rfl) Yba.func3
    (ChangeSpec.witness6 (enc := enc) (C := Yba.checked) false ⟨#[], #[.slice none 0 0, .slice none 0 0, .int .u8 0, .slice none 0 0], []⟩ 8 (by kernel_rfl) (by kernel_rfl) (by kernel_rfl) (by kernel_rfl)) ?_
  intro W base args ds gs before hval0 hW hcnd _
  have hval : ∀ (j : Nat) t v, Yba.f3.params[j]? = some t → args[j]? = some v → Value.okWide Yba.prog W .any base t v := hval0
  have hW' := hW
  obtain ⟨p, q, hA0, hV, rfl, hfz, hnd⟩ := hW
  have hA : DataW.TrodAll enc Yba.prog W 0 (fun _ => true) true Yba.f3.params.toList args.toList ds p := hA0
  rw [Yba.params3] at hA hval
  obtain ⟨v0, vs0, d0, ds0, p0, q0, hargs, rfl, rfl, h0, r0⟩ := trodAll_cons hA
  obtain ⟨v1, vs1, d1, ds1, p1, q1, rfl, rfl, rfl, h1, r1⟩ := trodAll_cons r0
  obtain ⟨v2, vs2, d2, ds2, p2, q2, rfl, rfl, rfl, h2, r2⟩ := trodAll_cons r1
  obtain ⟨v3, vs3, d3, ds3, p3, q3, rfl, rfl, rfl, h3, r3⟩ := trodAll_cons r2
  obtain ⟨rfl, rfl, rfl⟩ := trodAll_nil r3
  obtain rfl : args = #[v0, v1, v2, v3] := by cases args; simp_all
  obtain ⟨rfl, rfl⟩ := trodVars_none hV
  obtain ⟨a0, len0, cap0, rfl⟩ := okWide_slice Yba.underlying22 (hval 0 22 v0 rfl rfl)
  obtain ⟨a1, len1, cap1, rfl⟩ := okWide_slice Yba.underlying23 (hval 1 23 v1 rfl rfl)
  obtain ⟨km, rfl, rfl, rfl, w2⟩ := open_int Yba.underlying5 (hval 2 5 v2 rfl rfl) h2
  obtain ⟨a3, len3, cap3, rfl⟩ := okWide_slice Yba.underlying23 (hval 3 23 v3 rfl rfl)
  have k0 := h0
  have k1 := h1
  have k3 := h3
  have lt0 : ∀ x ∈ p0, x.block < W.heap.size := by obtain ⟨m, hm⟩ := k0; exact DataW.trod_lt m _ _ _ hm
  have lt1 : ∀ x ∈ p1, x.block < W.heap.size := by obtain ⟨m, hm⟩ := k1; exact DataW.trod_lt m _ _ _ hm
  have lt3 : ∀ x ∈ p3, x.block < W.heap.size := by obtain ⟨m, hm⟩ := k3; exact DataW.trod_lt m _ _ _ hm
  obtain ⟨ms, rfl, hM, hms⟩ : ∃ ms : List Nat, ms.length = len0 ∧ Masks W a0 ms ∧ ∀ m ∈ ms, m < 256 := by
    obtain ⟨fuel, hf⟩ := h0
    exact masks_open (by simpa [Value.cells] using hf)
  obtain ⟨ss, rfl, hS, hsl⟩ : ∃ ss : List ByteArray, ss.length = len1 ∧ Strs W a1 ss ∧ len1 ≤ 9223372036854775807 := by
    obtain ⟨fuel, hf⟩ := h1
    exact strs_open (by simpa [Value.cells] using hf)
  obtain ⟨ks, rfl, hK, hkl⟩ : ∃ ss : List ByteArray, ss.length = len3 ∧ Strs W a3 ss ∧ len3 ≤ 9223372036854775807 := by
    obtain ⟨fuel, hf⟩ := h3
    exact strs_open (by simpa [Value.cells] using hf)
  clear hA0 hval0
  have hb := bounds_u8 w2
  have key : Calls Yba.prog 3 #[.slice a0 ms.length cap0, .slice a1 ss.length cap1, .int .u8 km, .slice a3 ks.length cap3] W fun e w' => e = .returned (.bool true) ∧ Below W.heap.size W w' := by
    by_cases hn : 512 < ms.length
    · exact law_long a0 a1 a3 cap0 cap1 cap3 _ _ _ km W hn
    · have e : km = ((km.toNat : Nat) : Int) := by omega
      rw [e]
      exact law_walk a0 a1 a3 cap0 cap1 cap3 ms ss ks km.toNat W hM hms hS hK (by omega) hsl hkl (by omega)
  refine key.mono fun e W' ⟨he, bel⟩ => ?_
  subst he
  exact ⟨_, rfl, _, _, _, [], _, [], hW', trodAll_mk1 (shut_bool Yba.underlying4 _),
    (trodAll_cons_mk (Below.trod laidOut (by kernel_rfl) (of_decide_eq_true (by kernel_rfl)) k0 bel lt0) (trodAll_cons_mk (Below.trod laidOut (by kernel_rfl) (of_decide_eq_true (by kernel_rfl)) k1 bel lt1)
      (trodAll_cons_mk (shut_int Yba.underlying5 w2) (trodAll_cons_mk (Below.trod laidOut (by kernel_rfl) (of_decide_eq_true (by kernel_rfl)) k3 bel lt3) trodAll_mk0)))),
    rfl, bel.frame _, fun h => by cases h⟩

theorem over : Rows.lawS1479BMergeRow.holds Yba.pinned (OpenSpec.ofChange Rows.lawS1479BMergeSpec) :=
  OpenClaim.holds_of_wide 3 Yba.f3 rfl rfl rfl rfl rfl rfl rfl ⟨rfl, rfl, rfl, rfl, rfl⟩ rfl rfl rfl rfl rfl (by kernel_rfl) Yba.func3 (by kernel_rfl)
    (of_decide_eq_true (by kernel_rfl)) (by unfold Func.isWrapper; first | (rw [if_pos (by decide +kernel)]; kernel_rfl) | (rw [if_neg (by decide +kernel)]; exact ⟨rfl, rfl⟩))
    (fun os started H enc _ => lifted os started H enc)

theorem lawS1479BMerge.proved : Rows.LawS1479BMergeSaid := over
#print axioms lawS1479BMerge.proved
end Go.Proofs.Ybulkadpk
