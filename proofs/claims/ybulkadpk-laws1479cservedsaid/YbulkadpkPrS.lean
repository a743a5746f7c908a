import Derived.Test.YbulkadpkLwB
import Derived.Test.YbulkadpkLwN
import Derived.OpenShut
import Derived.ChangeArms
import Derived.Deep.Slices
import Derived.Deep.Grids
import Derived.ShutString
import Derived.SliceStrings
import Derived.ChangeOld
import Derived.ChangeAt
import Derived.ProofKit
import Derived.JoinedOf
namespace Go.Proofs.Ybulkadpk
open Go.ChangeShapes Go.WideShapes Go.ChangeAt Go.RowKit Go.Deep
set_option linter.unusedVariables false
set_option linter.unusedSimpArgs false

theorem cells5' : Yba.prog.cellsOf 5 = 1 := by kernel_rfl
theorem cells4' : Yba.prog.cellsOf 4 = 1 := by kernel_rfl
theorem cells22' : Yba.prog.cellsOf 22 = 1 := by kernel_rfl
theorem cells40' : Yba.prog.cellsOf 40 = 1 := by kernel_rfl
theorem cells41' : Yba.prog.cellsOf 41 = 1 := by kernel_rfl
theorem cells43' : Yba.prog.cellsOf 43 = 3 := by kernel_rfl
theorem one_of_take {cs : List Value} {i : Nat} {v : Value} (h : (cs.drop i).take 1 = [v]) : cs[i]? = some v := by
  have : ((cs.drop i).take 1)[0]? = some v := by rw [h]; rfl
  rw [List.getElem?_take, if_pos (by omega), List.getElem?_drop] at this
  simpa using this

section
variable {H : Type} {enc : TypeId × Value → H} {W : World} {held : Bool} {sp : Nat → Bool}
theorem sub_open {A B : Type} [Inhabited A] [Inhabited B] {ty ety : TypeId} {sz : Nat} (row : A → B → List Value) (sub : Nat → B → A → Prop) (hu : Yba.prog.underlying ty = some (.slice ety)) (hsz : Yba.prog.cellsOf ety = sz) (hr : ∀ a b, (row a b).length = sz) (h0 : 0 < sz)
    (hel : ∀ i fuel cs x, DataW.trod enc Yba.prog W 0 sp held fuel ety cs = some x → ∃ a b, cs = row a b ∧ sub i b a) {cs : List Value} {fuel : Nat} {x : DataW H × List MemPlace} (h : DataW.trod enc Yba.prog W 0 sp held fuel ty cs = some x) :
    ∃ v L, cs = [v] ∧ SubL 0 W.heap.size W v sz row sub L := by
  rcases open_slice hu h with ⟨hcs, _⟩ | ⟨y, l, c, m, n, D, Pl, hcs, _, hlc, hcm, hm, _, hel'⟩
  · exact ⟨_, [], hcs, [], rfl, ⟨none, 0, rfl, fun h => by simp at h⟩, fun i p h => by simp at h⟩
  · have hlm : l ≤ m := by rw [hm]; split <;> omega
    obtain ⟨S, hS⟩ := choose_lt (α := A × B) (n := l) (p := fun i d => sub i d.2 d.1 ∧ ∀ t v, (row d.1 d.2)[t]? = some v → W.cell? (y.add (i * sz + t)) = some v) (fun i hi => by
      obtain ⟨cs', h1, h2⟩ := hel' i (by omega)
      rw [hsz] at h1
      obtain ⟨a, b, rfl, hs⟩ := hel i _ _ _ h2
      obtain ⟨_, hl, hc⟩ := World.cells?_some h1
      refine ⟨(a, b), hs, fun t v ht => ?_⟩
      have ht16 : t < sz := by have := (List.getElem?_eq_some_iff.1 ht).1; rw [hr] at this; exact this
      rw [← Addr.add_add, hc t ht16]
      exact ht)
    refine ⟨_, ((List.range l).map S).map Prod.fst, hcs, (List.range l).map S, rfl, ⟨some y, c, by simp, fun hl0 => ?_⟩, fun i p hp => ?_⟩
    · have h0' : 0 < l := by simpa using hl0
      obtain ⟨b, o, spot⟩ := y
      have hrl := hr (S 0).1 (S 0).2
      have c0 := (hS 0 h0').2 0 _ (List.getElem?_eq_getElem (by omega))
      have hspot : spot = none := by simpa [Addr.add] using World.cell?_spot c0
      subst hspot
      refine ⟨b, o, rfl, Nat.zero_le _, ?_, fun j row' t u hj ht => ?_⟩
      · have := block_lt_of_cell c0
        rw [Addr.add_mid] at this
        exact this
      · have hjl : j < l := by have := (List.getElem?_eq_some_iff.1 hj).1; simpa using this
        have e : row (S j).1 (S j).2 = row' := by simpa [hjl] using hj
        have := (hS j hjl).2 t u (by rw [e]; exact ht)
        rw [Addr.add_mid, ← Nat.add_assoc] at this
        exact this
    · have hil : i < l := by have := (List.getElem?_eq_some_iff.1 hp).1; simpa using this
      have e : S i = p := by simpa [hil] using hp
      rw [← e]
      exact (hS i hil).1
theorem bytes_open {cs : List Value} {fuel : Nat} {x : DataW H × List MemPlace} (h : DataW.trod enc Yba.prog W 0 sp held fuel 22 cs = some x) : ∃ v bs, cs = [v] ∧ BytesL 0 W.heap.size W v bs :=
  sub_open (fun (b : Int) (_ : Unit) => [.int .u8 b]) _ Yba.underlying22 cells5' (fun _ _ => rfl) (by omega) (fun i fuel cs x h => by
    obtain ⟨n, hn, _, hw⟩ := DataW.trod_int Yba.underlying5 h
    exact ⟨n, (), hn, bounds_u8 hw⟩) h
theorem mets_open {cs : List Value} {fuel : Nat} {x : DataW H × List MemPlace} (h : DataW.trod enc Yba.prog W 0 sp held fuel 41 cs = some x) : ∃ v M, cs = [v] ∧ InMets 0 W.heap.size W v M :=
  have : Inhabited Value := ⟨undef⟩
  sub_open (fun (_ : List Int) (x : Value) => [x]) _ Yba.underlying41 cells22' (fun _ _ => rfl) (by omega) (fun i fuel cs x h => by
    obtain ⟨v, bs, hv, hb⟩ := bytes_open h
    exact ⟨bs, v, hv, hb⟩) h
theorem fam_cells {cs : List Value} {fuel : Nat} {x : DataW H × List MemPlace} (h : DataW.trod enc Yba.prog W 0 sp held fuel 43 cs = some x) : ∃ (z : Zf) (mv : Value), cs = [.int .u8 z.k, .bool z.c, mv] ∧ (InMets 0 W.heap.size W mv z.M ∧ 0 ≤ z.k ∧ z.k ≤ 255) := by
  obtain ⟨xs, m, rfl, _, hl, hx, hel⟩ := DataW.trod_struct Yba.underlying43 h
  rw [cells43'] at hl
  have g0 : DataW.trod enc Yba.prog W 0 sp held m 5 ((cs.drop 0).take (Yba.prog.cellsOf 5)) = xs[0]? := hel 0 _ rfl
  have g1 : DataW.trod enc Yba.prog W 0 sp held m 4 ((cs.drop 1).take (Yba.prog.cellsOf 4)) = xs[1]? := hel 1 _ rfl
  have g2 : DataW.trod enc Yba.prog W 0 sp held m 41 ((cs.drop 2).take (Yba.prog.cellsOf 41)) = xs[2]? := hel 2 _ rfl
  have hx3 : xs.length = 3 := hx
  rw [List.getElem?_eq_getElem (by omega)] at g0 g1 g2
  simp only [cells5', cells4', cells41'] at g0 g1 g2
  obtain ⟨e, he, _, we⟩ := DataW.trod_int Yba.underlying5 g0
  obtain ⟨b, hb, _⟩ := DataW.trod_bool Yba.underlying4 g1
  obtain ⟨v, M, hv, hM⟩ := mets_open g2
  refine ⟨⟨e, b, M⟩, v, ?_, hM, bounds_u8 we⟩
  have c0 := one_of_take he
  have c1 := one_of_take hb
  have c2 := one_of_take hv
  refine List.ext_getElem? fun i => ?_
  match i with
  | 0 => rw [c0]; rfl
  | 1 => rw [c1]; rfl
  | 2 => rw [c2]; rfl
  | i + 3 =>
    rw [List.getElem?_eq_none (by omega)]
    rfl
theorem fams_open {cs : List Value} {fuel : Nat} {x : DataW H × List MemPlace} (h : DataW.trod enc Yba.prog W 0 sp held fuel 40 cs = some x) : ∃ v F, cs = [v] ∧ InFams 0 W.heap.size W v F :=
  have : Inhabited Value := ⟨undef⟩
  have : Inhabited Zf := ⟨⟨0, false, []⟩⟩
  sub_open (fun (z : Zf) (mv : Value) => [.int .u8 z.k, .bool z.c, mv]) _ Yba.underlying40 cells43' (fun _ _ => rfl) (by omega) (fun i fuel cs x h => fam_cells h) h
theorem grps_open {cs : List Value} {fuel : Nat} {x : DataW H × List MemPlace} (h : DataW.trod enc Yba.prog W 0 sp held fuel 38 cs = some x) : ∃ v G, cs = [v] ∧ InGrps 0 W.heap.size W v G :=
  have : Inhabited Value := ⟨undef⟩
  sub_open (fun (_ : List Zf) (x : Value) => [x]) _ Yba.underlying38 cells40' (fun _ _ => rfl) (by omega) (fun i fuel cs x h => by
    obtain ⟨v, F, hv, hF⟩ := fams_open h
    exact ⟨F, v, hv, hF⟩) h
end

theorem ownKnobNone : ownKnob Yba.prog.godebug = none := by kernel_rfl
theorem laidOut : laidOutB Yba.prog = true := by kernel_rfl

set_option maxRecDepth 100000 in
theorem lifted (os : Os) (started : os.Started) (H : Type) (enc : TypeId × Value → H) :
    ReturnsInHanded {} Yba.checked os 4 .any (Rows.lawS1479CServedSpec.pre6 enc Yba.prog Yba.f4 Rows.lawS1479CServedRow.domain false) (Rows.lawS1479CServedSpec.post enc Yba.prog Yba.f4 false true false false) := by
  refine returnsInHanded_of_change (C := Yba.checked) ownKnobNone started (by kernel_rfl) Yba.func4
    (ChangeSpec.witness6 (enc := enc) (C := Yba.checked) false ⟨#[], #[.slice none 0 0, .int .u8 0, .int .u16 0], []⟩ 8 (by kernel_rfl) (by kernel_rfl) (by kernel_rfl) (by kernel_rfl)) ?_
  intro W base args ds gs before hval0 hW hcnd _
  have hval : ∀ (j : Nat) t v, Yba.f4.params[j]? = some t → args[j]? = some v → Value.okWide Yba.prog W .any base t v := hval0
  have hW' := hW
  obtain ⟨p, q, hA0, hV, rfl, hfz, hnd⟩ := hW
  have hA : DataW.TrodAll enc Yba.prog W 0 (fun _ => true) true Yba.f4.params.toList args.toList ds p := hA0
  rw [Yba.params4] at hA hval
  obtain ⟨v0, vs0, d0, ds0, p0, q0, hargs, rfl, rfl, h0, r0⟩ := trodAll_cons hA
  obtain ⟨v1, vs1, d1, ds1, p1, q1, rfl, rfl, rfl, h1, r1⟩ := trodAll_cons r0
  obtain ⟨v2, vs2, d2, ds2, p2, q2, rfl, rfl, rfl, h2, r2⟩ := trodAll_cons r1
  obtain ⟨rfl, rfl, rfl⟩ := trodAll_nil r2
  obtain rfl : args = #[v0, v1, v2] := by cases args; simp_all
  obtain ⟨rfl, rfl⟩ := trodVars_none hV
  have k0 := h0
  have k1 := h1
  have k2 := h2
  have lt0 : ∀ x ∈ p0, x.block < W.heap.size := by obtain ⟨m, hm⟩ := k0; exact DataW.trod_lt m _ _ _ hm
  have lt1 : ∀ x ∈ p1, x.block < W.heap.size := by obtain ⟨m, hm⟩ := k1; exact DataW.trod_lt m _ _ _ hm
  have lt2 : ∀ x ∈ p2, x.block < W.heap.size := by obtain ⟨m, hm⟩ := k2; exact DataW.trod_lt m _ _ _ hm
  obtain ⟨a0, len0, cap0, rfl⟩ := okWide_slice Yba.underlying38 (hval 0 38 v0 rfl rfl)
  obtain ⟨n1, rfl, rfl, rfl, w1⟩ := open_int Yba.underlying5 (hval 1 5 v1 rfl rfl) h1
  obtain ⟨n2, rfl, rfl, rfl, w2⟩ := open_int Yba.underlying39 (hval 2 39 v2 rfl rfl) h2
  have b1 := bounds_u8 w1
  have b2 := bounds_u16 w2
  obtain ⟨G, hG, hI⟩ : ∃ G : List (List Zf), G.length = len0 ∧ InGrps 0 W.heap.size W (.slice a0 len0 cap0) G := by
    obtain ⟨fuel, hf⟩ := h0
    obtain ⟨v, G, hv, hG⟩ := grps_open (cs := [.slice a0 len0 cap0]) (by simpa [Value.cells] using hf)
    obtain ⟨sp, sc, e⟩ := SubL.form hG
    simp only [List.cons.injEq, and_true] at hv
    rw [← hv] at hG e
    simp only [Value.slice.injEq] at e
    exact ⟨G, e.2.1.symm, hG⟩
  subst hG
  clear hA0 hval0
  have key : Calls Yba.prog 4 #[.slice a0 G.length cap0, .int .u8 n1, .int .u16 n2] W fun e w' => e = .returned (.bool true) ∧ Below W.heap.size W w' := by
    by_cases hlong : 256 < G.length
    · exact served_long a0 G.length cap0 n1 n2 W hlong
    · by_cases hF : Fits G
      · exact served_fits G a0 cap0 n1 n2 W hI hF b1.1 b1.2 b2.1 b2.2
      · exact served_nofit G a0 cap0 n1 n2 W hI hF (by omega) b1.1 b1.2 b2.1 b2.2
  refine key.mono fun e W' ⟨he, bel⟩ => ?_
  subst he
  exact ⟨_, rfl, _, _, _, [], _, [], hW', trodAll_mk1 (shut_bool Yba.underlying4 _),
    (trodAll_cons_mk (Below.trod laidOut (by kernel_rfl) (of_decide_eq_true (by kernel_rfl)) k0 bel lt0) (trodAll_cons_mk (Below.trod laidOut (by kernel_rfl) (of_decide_eq_true (by kernel_rfl)) k1 bel lt1)
      (trodAll_cons_mk (Below.trod laidOut (by kernel_rfl) (of_decide_eq_true (by kernel_rfl)) k2 bel lt2) trodAll_mk0))),
    rfl, bel.frame _, fun h => by cases h⟩

theorem over : Rows.lawS1479CServedRow.holds Yba.pinned (OpenSpec.ofChange Rows.lawS1479CServedSpec) :=
  OpenClaim.holds_of_wide 4 Yba.f4 rfl rfl rfl rfl rfl rfl rfl ⟨rfl, rfl, rfl, rfl, rfl⟩ rfl rfl rfl rfl rfl (by kernel_rfl) Yba.func4 (by kernel_rfl)
    (of_decide_eq_true (by kernel_rfl)) (by unfold Func.isWrapper; first | (rw [if_pos (by decide +kernel)]; kernel_rfl) | (rw [if_neg (by decide +kernel)]; exact ⟨rfl, rfl⟩))
    (fun os started H enc _ => lifted os started H enc)

theorem lawS1479CServed.proved : Rows.LawS1479CServedSaid := over

end Go.Proofs.Ybulkadpk
