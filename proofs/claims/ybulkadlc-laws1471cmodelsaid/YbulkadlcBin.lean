import Derived.Test.YbulkadlcTab
namespace Go.Proofs.Ybulkadlc
open Go.RowKit Go.QuietTail
set_option linter.unusedVariables false
set_option linter.unusedSimpArgs false

/-- The entries go up. -/
def Asc (l : List Fg) : Prop := ∀ (j k : Nat) (x y : Fg), l[j]? = some x → l[k]? = some y → j < k → x.1 < y.1
/-- k is the place of entry i in l. -/
structure Place (l : List Fg) (i : Int) (k : Nat) : Prop where
  le : k ≤ l.length
  lo : ∀ (j : Nat) (x : Fg), l[j]? = some x → j < k → x.1 < i
  hi : ∀ (j : Nat) (x : Fg), l[j]? = some x → k ≤ j → i ≤ x.1
def isAt (l : List Fg) (i : Int) (k : Nat) : Bool := match l[k]? with | some x => x.1 == i | none => false

theorem wpList_load_midG {P : Program} {ops : Array Oper} {rest : List Oper} {op : Oper} {a : Act} {w : World} {Q : Exit → Act → World → Prop} (hw : Region.wanted op (yielded ops a.tmps) = true) (ty : TypeId) (x : Operand) (ho : op.op = .load ty x)
    (b o : Nat) (hx : a.eval x = .pointer (some ⟨b, o, none⟩)) (cs : List Value) (d : TypeDesc) (hc : w.rangeAt b o cs)
    (hu : P.underlying ty = some d) (hd : d.isRow = true) (hi : (P.info? ty).map (·.size) = some cs.length)
    (h : wpList P ops Q rest (a.put op.dst (.agg cs.toArray)) w) : wpList P ops Q (op :: rest) a w :=
  wpList_step fun K hK => by rw [if_pos hw]; exact wp_load_mid ty x ho b o hx cs d hc hu hd hi (hK _ _ h)
theorem loadF {ops : Array Oper} {rest : List Oper} {op : Oper} {a : Act} {w : World} {Q : Exit → Act → World → Prop} (hw : Region.wanted op (yielded ops a.tmps) = true) (x : Operand) (ho : op.op = .load 65 x)
    (b o : Nat) (hx : a.eval x = .pointer (some ⟨b, o, none⟩)) (y : Fg) (hy : FgOk y) (hc : w.rangeAt b o (cellsF y))
    (h : wpList Yba.prog ops Q rest (a.put op.dst (.agg (cellsF y).toArray)) w) : wpList Yba.prog ops Q (op :: rest) a w :=
  wpList_load_midG hw 65 x ho b o hx (cellsF y) _ hc Yba.underlying65 rfl (by rw [info65, cellsF_len hy]) h

set_option maxHeartbeats 1000000 in
theorem bsearch_nil (i : Int) (w : World) : Calls Yba.prog 33 #[.slice none 0 0, .int .i64 i, .func (.func 34) #[] #[]] w fun e w' => e = .returned (.tuple #[.int .i64 0, .bool false]) ∧ Below w.heap.size w w' := by
  go_enter Yba.func33, Yba.ntmps33
  go_wp2
  go_loopw [9, 10] (fun i j wr => i = .int .i64 0 ∧ j = .int .i64 0 ∧ wr = w) (fun i j wr => 0)
  case atStart => exact ⟨rfl, rfl, rfl⟩
  case round =>
    obtain ⟨rfl, rfl, rfl⟩ := hrel
    go_wp2
    go_ret2
    exact ⟨rfl, Below.refl _ _⟩

set_option maxHeartbeats 1000000 in
theorem bsearch_some (g cap : Nat) (B : Nat) (l : List Fg) (i : Int) (hi0 : 0 ≤ i) (hi1 : i ≤ 255) (hok : FOk l) (hasc : Asc l) (hl : l.length ≤ 1024) (w : World) (hT : Tab w B (.slice (some ⟨g, 0, none⟩) l.length cap) l) (hg : g < w.heap.size) :
    Calls Yba.prog 33 #[.slice (some ⟨g, 0, none⟩) l.length cap, .int .i64 i, .func (.func 34) #[] #[]] w fun e w' => ∃ k : Nat, Place l i k ∧ e = .returned (.tuple #[.int .i64 k, .bool (isAt l i k)]) ∧ Below w.heap.size w w' := by
  obtain ⟨n, hn⟩ : ∃ n, n = l.length := ⟨_, rfl⟩
  have HN : Hid (n = l.length) := hn
  rw [← hn] at hT hl ⊢
  clear hn
  have HT : Hid (Tab w B (.slice (some ⟨g, 0, none⟩) n cap) l) := hT
  clear hT
  go_enter Yba.func33, Yba.ntmps33
  go_wp2
  go_loopw [9, 10] (fun u v wr => ∃ a b : Nat, u = .int .i64 a ∧ v = .int .i64 b ∧ a ≤ b ∧ b ≤ n ∧ Hid ((∀ (j : Nat) (x : Fg), l[j]? = some x → j < a → x.1 < i) ∧ (∀ (j : Nat) (x : Fg), l[j]? = some x → b ≤ j → i ≤ x.1) ∧ Below w.heap.size w wr)) (fun u v wr => (intOf v - intOf u).toNat)
  case atStart => 
    refine ⟨0, n, rfl, rfl, Nat.zero_le _, Nat.le_refl _, ⟨fun j x _ h => absurd h (Nat.not_lt_zero _), fun j x hj h => ?_, Below.refl _ _⟩⟩
    have h1 := (List.getElem?_eq_some_iff.1 hj).1
    have h2 := HN.out
    omega
  case round =>
    obtain ⟨a, b, rfl, rfl, hab, hbn, HH⟩ := hrel
    by_cases hlt : a < b
    · have hlt' : (a : Int) < (b : Int) := by omega
      obtain ⟨h, hh⟩ : ∃ h, h = (a + b) / 2 := ⟨_, rfl⟩
      have hN := HN.out
      obtain ⟨x, hx⟩ : ∃ x, l[h]? = some x := ⟨_, List.getElem?_eq_getElem (show h < l.length by omega)⟩
      have hxo := hok.at hx
      have ld := (HT.out.later HH.out.2.2).range hok hx
      rw [hh] at ld
      have LD : Hid _ := ld
      have HX : Hid (l[h]? = some x) := hx
      have HHH : Hid (h = (a + b) / 2) := hh
      clear hN hx hh ld
      go_wp2_with (first | (refine loadF rfl (.tmp 27) rfl _ _ rfl x hxo LD.out ?_) | (go_at_call 34; refine (cmp_any x hxo i hi0 hi1 _).mono ?_; rintro e w1 ⟨rfl, hb1⟩))
      · go_roundw
        case rel =>
          have e1 := HHH.out
          refine ⟨(a + b) / 2 + 1, b, by simp, rfl, by omega, hbn, ?_, HH.out.2.1, HH.out.2.2.trans (hb1.mono HH.out.2.2.size)⟩
          intro j y hj hja
          by_cases hjh : j = h
          · subst hjh
            have e2 := HX.out
            rw [e2] at hj
            cases hj
            omega
          · have e3 := hasc j h y x hj HX.out (by omega)
            omega
        case measure =>
          simp [intOf]
          omega
      · go_roundw
        case rel =>
          have e1 := HHH.out
          refine ⟨a, (a + b) / 2, rfl, by simp, by omega, by omega, HH.out.1, ?_, HH.out.2.2.trans (hb1.mono HH.out.2.2.size)⟩
          intro j y hj hja
          by_cases hjh : j = h
          · subst hjh
            have e2 := HX.out
            rw [e2] at hj
            cases hj
            omega
          · have e3 := hasc h j x y HX.out hj (by omega)
            omega
        case measure =>
          simp [intOf]
          omega
    · have hlt' : ¬ (a : Int) < (b : Int) := by omega
      obtain rfl : a = b := by omega
      clear hlt hlt' hab
      have hN := HN.out
      by_cases hn : a < n
      · obtain ⟨x, hx⟩ : ∃ x, l[a]? = some x := ⟨_, List.getElem?_eq_getElem (show a < l.length by omega)⟩
        have hxo := hok.at hx
        have LD : Hid _ := (HT.out.later HH.out.2.2).range hok hx
        have HX : Hid (l[a]? = some x) := hx
        clear hN hx
        go_wp2_with (first | (refine loadF rfl (.tmp 43) rfl _ _ rfl x hxo LD.out ?_) | (go_at_call 34; refine (cmp_any x hxo i hi0 hi1 _).mono ?_; rintro e w1 ⟨rfl, hb1⟩))
        go_ret2
        have hf : isAt l i a = decide (x.1 - i = 0) := by
          rw [isAt, HX.out]
          show (x.1 == i) = _
          rw [Bool.eq_iff_iff]
          simp
          omega
        exact ⟨a, ⟨by have := HN.out; omega, HH.out.1, HH.out.2.1⟩, by rw [hf]; rfl, HH.out.2.2.trans (hb1.mono HH.out.2.2.size)⟩
      · have HE : Hid (l[a]? = none) := List.getElem?_eq_none (by omega)
        clear hN
        go_wp2
        go_ret2
        have hf : isAt l i a = false := by rw [isAt, HE.out]
        exact ⟨a, ⟨by have := HN.out; omega, HH.out.1, HH.out.2.1⟩, by rw [hf]; rfl, HH.out.2.2⟩
end Go.Proofs.Ybulkadlc
