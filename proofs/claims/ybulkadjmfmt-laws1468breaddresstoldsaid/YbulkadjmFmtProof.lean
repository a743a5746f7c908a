/- The told card of LawS1468BReaddress: the row's frame round the walk (YbulkadjmFmtLaw.lean). -/
import Derived.Test.YbulkadjmFmtCards
import Derived.Test.YbulkadjmFmtLaw
import Derived.Test.YbulkadjmFmtOpen
import Derived.ProofKit
import Derived.OpenShut
import Derived.ChangeOld
import Derived.Stop.JoinedAt
import Derived.Stop.JoinedTold
import Derived.SevenToldRow
namespace Go.Proofs.YbulkadjmFmt
open Go.ChangeShapes Go.WideShapes Go.ChangeAt Go.RowKit
open Go.Extern.Stop Go.Stop Go.Extern

theorem own : ownKnob Ybaf.prog.godebug = none := by kernel_rfl
theorem laidOut : laidOutB Ybaf.prog = true := by kernel_rfl
theorem laidOutP : laidOutB Ybaf.pinned.checked.prog = true := by kernel_rfl
theorem stopsOf : Ybaf.pinned.checked.prog.stops = ["fmt.errorf"] := by kernel_rfl
theorem stopKnobsOf : Ybaf.pinned.checked.prog.stopKnobs = [] := by kernel_rfl
theorem quietOf (os : Os) : Stop.quiet Ybaf.pinned.checked.prog os := by
  intro k hk
  rw [stopKnobsOf] at hk
  cases hk

set_option maxRecDepth 100000 in
theorem lifted (os : Os) (started : os.Started) (H : Type) (enc : TypeId × Value → H) :
    ReturnsInTold none {} Ybaf.checked os 3 .any Input.okWide ((OpenSpec.ofChange Rows.lawS1468BReaddressSpec).preRow enc Ybaf.prog Ybaf.f3 [] false []) (fun F => ((OpenSpec.ofChange Rows.lawS1468BReaddressSpec).at F).post enc Ybaf.prog Ybaf.f3 false true false false) (aloneAtReturn Ybaf.prog) nothingAlways := by
  refine returnsInTold_of_row (C := Ybaf.checked) (s := OpenSpec.ofChange Rows.lawS1468BReaddressSpec) (by kernel_rfl) own started (by kernel_rfl) Ybaf.func3
    (OpenSpec.witness_stopped (enc := enc) (C := Ybaf.checked) false ⟨#[], #[.int .u16 0, .int .u16 0, .int .u16 0, .int .u16 0, .slice none 0 0, .slice none 0 0, .slice none 0 0, .int .u8 0, .int .u16 0], []⟩ 8 (by kernel_rfl) (by kernel_rfl) (by kernel_rfl) (by kernel_rfl)) ?_
  intro F W base args ds gs before _ hF hval0 hW _ _ _ _ _
  have hval : ∀ (j : Nat) t v, Ybaf.f3.params[j]? = some t → args[j]? = some v → Value.okWide Ybaf.prog W .any base t v := hval0
  have hW' := hW
  obtain ⟨p, q, hA0, hV, rfl, hfz, hnd⟩ := hW
  have hA : DataW.TrodAll enc Ybaf.prog W 0 (fun _ => true) true Ybaf.f3.params.toList args.toList ds p := hA0
  rw [Ybaf.params3] at hA hval
  obtain ⟨v0, vs0, d0, ds0, p0, q0, hargs, rfl, rfl, h0, r0⟩ := trodAll_cons hA
  obtain ⟨v1, vs1, d1, ds1, p1, q1, rfl, rfl, rfl, h1, r1⟩ := trodAll_cons r0
  obtain ⟨v2, vs2, d2, ds2, p2, q2, rfl, rfl, rfl, h2, r2⟩ := trodAll_cons r1
  obtain ⟨v3, vs3, d3, ds3, p3, q3, rfl, rfl, rfl, h3, r3⟩ := trodAll_cons r2
  obtain ⟨v4, vs4, d4, ds4, p4, q4, rfl, rfl, rfl, h4, r4⟩ := trodAll_cons r3
  obtain ⟨v5, vs5, d5, ds5, p5, q5, rfl, rfl, rfl, h5, r5⟩ := trodAll_cons r4
  obtain ⟨v6, vs6, d6, ds6, p6, q6, rfl, rfl, rfl, h6, r6⟩ := trodAll_cons r5
  obtain ⟨v7, vs7, d7, ds7, p7, q7, rfl, rfl, rfl, h7, r7⟩ := trodAll_cons r6
  obtain ⟨v8, vs8, d8, ds8, p8, q8, rfl, rfl, rfl, h8, r8⟩ := trodAll_cons r7
  obtain ⟨rfl, rfl, rfl⟩ := trodAll_nil r8
  obtain rfl : args = #[v0, v1, v2, v3, v4, v5, v6, v7, v8] := by cases args; simp_all
  obtain ⟨rfl, rfl⟩ := trodVars_none hV
  obtain ⟨qid, rfl, rfl, rfl, w0⟩ := open_int Ybaf.underlying22 (hval 0 22 v0 rfl rfl) h0
  obtain ⟨hid, rfl, rfl, rfl, w1⟩ := open_int Ybaf.underlying22 (hval 1 22 v1 rfl rfl) h1
  obtain ⟨flags, rfl, rfl, rfl, w2⟩ := open_int Ybaf.underlying22 (hval 2 22 v2 rfl rfl) h2
  obtain ⟨qd, rfl, rfl, rfl, w3⟩ := open_int Ybaf.underlying22 (hval 3 22 v3 rfl rfl) h3
  obtain ⟨a4, len4, cap4, rfl⟩ := okWide_slice Ybaf.underlying23 (hval 4 23 v4 rfl rfl)
  have k4 := h4
  have lt4 : ∀ x ∈ p4, x.block < W.heap.size := by obtain ⟨m, hm⟩ := k4; exact DataW.trod_lt m _ _ _ hm
  obtain ⟨a5, len5, cap5, rfl⟩ := okWide_slice Ybaf.underlying23 (hval 5 23 v5 rfl rfl)
  have k5 := h5
  have lt5 : ∀ x ∈ p5, x.block < W.heap.size := by obtain ⟨m, hm⟩ := k5; exact DataW.trod_lt m _ _ _ hm
  obtain ⟨a6, len6, cap6, rfl⟩ := okWide_slice Ybaf.underlying24 (hval 6 24 v6 rfl rfl)
  have k6 := h6
  have lt6 : ∀ x ∈ p6, x.block < W.heap.size := by obtain ⟨m, hm⟩ := k6; exact DataW.trod_lt m _ _ _ hm
  obtain ⟨k, rfl, rfl, rfl, w7⟩ := open_int Ybaf.underlying5 (hval 7 5 v7 rfl rfl) h7
  obtain ⟨cut, rfl, rfl, rfl, w8⟩ := open_int Ybaf.underlying22 (hval 8 22 v8 rfl rfl) h8
  obtain ⟨q, rfl, hq, _⟩ : ∃ l : List Int, l.length = len4 ∧ Arg W a4 l ∧ (a4 = none → cap4 = 0) := by
    obtain ⟨fuel, hf⟩ := h4
    exact arg_open (by simpa [Value.cells] using hf)
  obtain ⟨aq, rfl, haq, _⟩ : ∃ l : List Int, l.length = len5 ∧ Arg W a5 l ∧ (a5 = none → cap5 = 0) := by
    obtain ⟨fuel, hf⟩ := h5
    exact arg_open (by simpa [Value.cells] using hf)
  obtain ⟨rs, rfl, hrl, hr⟩ : ∃ rs : List RecV, rs.length = len6 ∧ len6 ≤ 9223372036854775807 ∧ (0 < rs.length → ∃ b o, a6 = some ⟨b, o, none⟩ ∧ RecsAt W b o rs) := by
    obtain ⟨fuel, hf⟩ := h6
    exact recs_open (by simpa [Value.cells] using hf)
  clear hA0 hval0
  refine (law_walk F.told qid hid flags qd k cut a4 a5 a6 cap4 cap5 cap6 q aq rs W hF (bounds_u16 w0) (bounds_u16 w1) (bounds_u16 w2) (bounds_u16 w3) (bounds_u8 w7) (bounds_u16 w8) hq haq hrl hr).mono fun e W' ⟨he, bel⟩ => ?_
  subst he
  exact ⟨_, rfl, _, _, _, [], _, [], hW', trodAll_mk1 (shut_bool Ybaf.underlying4 _),
    (trodAll_cons_mk (shut_int Ybaf.underlying22 w0) (trodAll_cons_mk (shut_int Ybaf.underlying22 w1) (trodAll_cons_mk (shut_int Ybaf.underlying22 w2) (trodAll_cons_mk (shut_int Ybaf.underlying22 w3)
      (trodAll_cons_mk (Below.trod laidOut (by kernel_rfl) (of_decide_eq_true (by kernel_rfl)) k4 bel lt4) (trodAll_cons_mk (Below.trod laidOut (by kernel_rfl) (of_decide_eq_true (by kernel_rfl)) k5 bel lt5)
      (trodAll_cons_mk (Below.trod laidOut (by kernel_rfl) (of_decide_eq_true (by kernel_rfl)) k6 bel lt6) (trodAll_cons_mk (shut_int Ybaf.underlying5 w7) (trodAll_cons_mk (shut_int Ybaf.underlying22 w8) trodAll_mk0))))))))),
    rfl, bel.frame _, fun h => by cases h⟩

theorem proved : Rows.LawS1468BReaddressToldSaid :=
  Claim7.holds_of_told_any 3 Ybaf.f3 "fmt.errorf" [] [] _ _ _ (by kernel_rfl) rfl rfl rfl laidOutP (by kernel_rfl) rfl ⟨rfl, rfl, rfl, rfl, rfl, rfl, rfl⟩ rfl rfl (by kernel_rfl) (by kernel_rfl) Ybaf.func3 (by kernel_rfl)
    (of_decide_eq_true (by kernel_rfl)) (of_decide_eq_true (by kernel_rfl)) stopsOf.symm rfl stopKnobsOf.symm (by kernel_rfl)
    (by kernel_rfl) (by kernel_rfl) (by kernel_rfl) (by kernel_rfl) (by kernel_rfl) (by kernel_rfl) (by kernel_rfl) (by kernel_rfl) (by kernel_rfl) rfl (by kernel_rfl) rfl rfl
    rfl rfl
    rfl (by kernel_rfl) (by kernel_rfl) (by kernel_rfl) (by decide) (by kernel_rfl)
    (OpenClaim.moreEntering_of (by kernel_rfl) (by kernel_rfl) (by kernel_rfl) (by kernel_rfl) (by kernel_rfl) (by kernel_rfl) (by kernel_rfl) (by kernel_rfl) (by kernel_rfl) (by kernel_rfl))
    ⟨_, WideRow.started_initial, quietOf _⟩
    (fun os started _ H enc _ => lifted os started H enc)
#print axioms proved
end Go.Proofs.YbulkadjmFmt
