import Derived.Test.YbulkadpkRows
import Derived.Test.YbulkadpkQT
import Derived.WalkKit
import Derived.ProofKit
import Derived.OpenShut
import Derived.Below
import Derived.OwnWalk
import Derived.Deep.QuietTactic
import Derived.BigQuiet
import Derived.Deep.RegionLaw
import Derived.Maps.Own
import Derived.Maps.AppendAt
namespace Go.Proofs.Ybulkadpk
open Go.RowKit Go.QuietTail
set_option linter.unusedVariables false
set_option linter.unusedSimpArgs false

/-! Rows of memory that lie in the blocks from lo on, ahead of hi. -/
def Keep (lo hi : Nat) (w w' : World) : Prop := ∀ k, lo ≤ k → k < hi → w'.heap[k]? = w.heap[k]?
theorem Keep.refl (lo hi : Nat) (w : World) : Keep lo hi w w := fun _ _ _ => rfl
theorem Keep.trans {lo hi : Nat} {a b c : World} (h : Keep lo hi a b) (k : Keep lo hi b c) : Keep lo hi a c := fun i h1 h2 => (k i h1 h2).trans (h i h1 h2)
theorem Keep.mono {lo hi lo' hi' : Nat} {a b : World} (h : Keep lo hi a b) (hl : lo ≤ lo') (hh : hi' ≤ hi) : Keep lo' hi' a b := fun i h1 h2 => h i (by omega) (by omega)
theorem Keep.of_below {lo n hi : Nat} {a b : World} (h : Below n a b) (hh : hi ≤ n) : Keep lo hi a b := fun i h1 h2 => h.block i (by omega)
theorem Keep.of_grown {lo hi : Nat} {a b : World} {row : Option Nat} (h : a.grownBy b row) (hh : hi ≤ a.heap.size) (hr : ∀ k, row = some k → k < lo ∨ hi ≤ k) : Keep lo hi a b := fun i h1 h2 =>
  h.block i (by omega) (fun e => by have := hr i e.symm; omega)

def SliceL (lo hi : Nat) (w : World) (v : Value) (sz : Nat) (L : List (List Value)) : Prop :=
  ∃ p c, v = .slice p L.length c ∧ (0 < L.length → ∃ b o, p = some ⟨b, o, none⟩ ∧ lo ≤ b ∧ b < hi ∧ ∀ j row t u, L[j]? = some row → row[t]? = some u → w.cell? ⟨b, o + j * sz + t, none⟩ = some u)
theorem SliceL.kept {lo hi : Nat} {w w' : World} {v : Value} {sz : Nat} {L : List (List Value)} (h : SliceL lo hi w v sz L) (hk : Keep lo hi w w') : SliceL lo hi w' v sz L := by
  obtain ⟨p, c, h1, h2⟩ := h
  refine ⟨p, c, h1, fun h0 => ?_⟩
  obtain ⟨b, o, e, l1, l2, hc⟩ := h2 h0
  refine ⟨b, o, e, l1, l2, fun j row t u hj ht => ?_⟩
  rw [World.cell?_of_block (w := w) (hk b l1 l2)]
  exact hc j row t u hj ht
theorem SliceL.mono {lo hi lo' hi' : Nat} {w : World} {v : Value} {sz : Nat} {L : List (List Value)} (h : SliceL lo hi w v sz L) (hl : lo' ≤ lo) (hh : hi ≤ hi') : SliceL lo' hi' w v sz L := by
  obtain ⟨p, c, h1, h2⟩ := h
  refine ⟨p, c, h1, fun h0 => ?_⟩
  obtain ⟨b, o, e, l1, l2, hc⟩ := h2 h0
  exact ⟨b, o, e, by omega, by omega, hc⟩

def SubL {A B : Type} (lo hi : Nat) (w : World) (v : Value) (sz : Nat) (row : A → B → List Value) (sub : Nat → B → A → Prop) (L : List A) : Prop :=
  ∃ ps : List (A × B), ps.map Prod.fst = L ∧ SliceL lo hi w v sz (ps.map fun p => row p.1 p.2) ∧ ∀ i p, ps[i]? = some p → sub i p.2 p.1
theorem SubL.kept {A B : Type} {lo hi lo' hi' : Nat} {w w' : World} {v : Value} {sz : Nat} {row : A → B → List Value} {sub sub' : Nat → B → A → Prop} {L : List A} (h : SubL lo hi w v sz row sub L)
    (hk : Keep lo hi w w') (hl : lo' ≤ lo) (hh : hi ≤ hi') (hs : ∀ i b a, sub i b a → sub' i b a) : SubL lo' hi' w' v sz row sub' L := by
  obtain ⟨ps, h1, h2, h3⟩ := h
  exact ⟨ps, h1, (h2.kept hk).mono hl hh, fun i p hp => hs _ _ _ (h3 i p hp)⟩
theorem SubL.form {A B : Type} {lo hi : Nat} {w : World} {v : Value} {sz : Nat} {row : A → B → List Value} {sub : Nat → B → A → Prop} {L : List A} (h : SubL lo hi w v sz row sub L) : ∃ p c, v = .slice p L.length c := by
  obtain ⟨ps, h1, ⟨p, c, h2, _⟩, _⟩ := h
  refine ⟨p, c, ?_⟩
  rw [h2, ← h1]
  simp
theorem SubL.get {A B : Type} {lo hi : Nat} {w : World} {p : Option Addr} {n c : Nat} {sz : Nat} {row : A → B → List Value} {sub : Nat → B → A → Prop} {L : List A} (h : SubL lo hi w (.slice p n c) sz row sub L) (h0 : 0 < L.length) :
    ∃ b o, p = some ⟨b, o, none⟩ ∧ lo ≤ b ∧ b < hi ∧ ∀ j a, L[j]? = some a → ∃ x, sub j x a ∧ ∀ t u, (row a x)[t]? = some u → w.cell? ⟨b, o + j * sz + t, none⟩ = some u := by
  obtain ⟨ps, h1, ⟨p', c', h2, h3⟩, h4⟩ := h
  obtain ⟨b, o, e, l1, l2, hc⟩ := h3 (by rw [← h1] at h0; simpa using h0)
  simp at h2
  refine ⟨b, o, h2.1.trans e, l1, l2, fun j a hj => ?_⟩
  rw [← h1, List.getElem?_map] at hj
  obtain ⟨q, hq, rfl⟩ := Option.map_eq_some_iff.1 hj
  exact ⟨q.2, h4 j q hq, fun t u ht => hc j _ t u (by rw [List.getElem?_map, hq]; rfl) ht⟩

/-! A row of one's own, its elements lists of cells. -/
def Rows' (w : World) (B e sz : Nat) (v : Value) (L : List (List Value)) : Prop := w.ownsRow B e sz v L.length L.flatten
theorem flatten_at {sz : Nat} : ∀ {L : List (List Value)} (hL : ∀ r ∈ L, r.length = sz) {j : Nat} {row : List Value} (hj : L[j]? = some row) {t : Nat} (ht : t < sz), L.flatten[j * sz + t]? = row[t]?
  | [], _, j, row, hj, t, ht => by simp at hj
  | r :: L, hL, 0, row, hj, t, ht => by
    have e : r = row := by simpa using hj
    subst e
    have := hL r (by simp)
    rw [List.flatten_cons, List.getElem?_append_left (by omega)]
    simp
  | r :: L, hL, j + 1, row, hj, t, ht => by
    have h1 := hL r (by simp)
    rw [List.flatten_cons, List.getElem?_append_right (by rw [h1, Nat.add_mul]; omega), h1]
    have h2 := flatten_at (fun x hx => hL x (by simp [hx])) (L := L) (j := j) (row := row) (by simpa using hj) ht
    rw [← h2]
    congr 1
    rw [Nat.add_mul]
    omega
theorem Rows'.slice {w : World} {B e sz : Nat} {v : Value} {L : List (List Value)} (h : Rows' w B e sz v L) (hL : ∀ r ∈ L, r.length = sz) : SliceL B w.heap.size w v sz L := by
  unfold Rows' at h
  rcases h.2 with ⟨rfl, hn⟩ | ⟨g, cap, cur, rfl, hb, hg, h1, h2, h3, h4⟩
  · exact ⟨none, 0, by rw [hn], fun h0 => by omega⟩
  · refine ⟨_, cap, rfl, fun h0 => ⟨g, 0, rfl, hb, (Array.getElem?_eq_some_iff.1 hg).1, fun j row t u hj ht => ?_⟩⟩
    have hjl := (List.getElem?_eq_some_iff.1 hj).1
    have hr := hL row (List.mem_of_getElem? hj)
    have htl := (List.getElem?_eq_some_iff.1 ht).1
    have hm : (j + 1) * sz ≤ L.length * sz := Nat.mul_le_mul_right _ hjl
    rw [Nat.add_mul] at hm
    rw [Nat.zero_add, h.cellAt (j * sz + t) (by omega), flatten_at hL hj (by omega)]
    exact ht
theorem Rows'.nil (w : World) (B e sz : Nat) : Rows' w B e sz (.slice none 0 0) [] := World.ownsRow_nil _ _ _ _

/-! The three small functions. -/
def nmB (n : Int) : ByteArray := if n % 3 = 0 then ⟨#[97]⟩ else if n % 3 = 1 then ⟨#[98]⟩ else ⟨#[99]⟩
def sfB (n : Int) : ByteArray := if n % 3 = 1 then ⟨#[95, 116, 111, 116, 97, 108]⟩ else if n % 3 = 2 then ⟨#[95, 99, 114, 101, 97, 116, 101, 100]⟩ else ByteArray.empty
def tyB (c : Bool) : ByteArray := if c then ⟨#[99, 111, 117, 110, 116, 101, 114]⟩ else ⟨#[103, 97, 117, 103, 101]⟩
theorem name_at (n : Int) (h0 : 0 ≤ n) (h1 : n ≤ 255) (w : World) : Calls Yba.prog 9 #[.int .u8 n] w fun e w' => e = .returned (.string (nmB n)) ∧ w' = w := by
  unfold nmB
  by_cases a1 : n % 3 = 0
  · rw [if_pos a1]
    go_enter Yba.func9, Yba.ntmps9
    go_wp2
    go_ret
    exact ⟨rfl, rfl⟩
  · rw [if_neg a1]
    by_cases a2 : n % 3 = 1
    · rw [if_pos a2]
      go_enter Yba.func9, Yba.ntmps9
      go_wp2
      go_ret
      exact ⟨rfl, rfl⟩
    · rw [if_neg a2]
      go_enter Yba.func9, Yba.ntmps9
      go_wp2
      go_ret
      exact ⟨rfl, rfl⟩
theorem suf_at (n : Int) (h0 : 0 ≤ n) (h1 : n ≤ 255) (w : World) : Calls Yba.prog 10 #[.int .u8 n] w fun e w' => e = .returned (.string (sfB n)) ∧ w' = w := by
  unfold sfB
  by_cases a1 : n % 3 = 1
  · rw [if_pos a1]
    go_enter Yba.func10, Yba.ntmps10
    go_wp2
    go_ret
    exact ⟨rfl, rfl⟩
  · rw [if_neg a1]
    by_cases a2 : n % 3 = 2
    · rw [if_pos a2]
      go_enter Yba.func10, Yba.ntmps10
      go_wp2
      go_ret
      exact ⟨rfl, rfl⟩
    · rw [if_neg a2]
      go_enter Yba.func10, Yba.ntmps10
      go_wp2
      go_ret
      exact ⟨rfl, rfl⟩
theorem typ_at (c : Bool) (w : World) : Calls Yba.prog 11 #[.bool c] w fun e w' => e = .returned (.string (tyB c)) ∧ w' = w := by
  unfold tyB
  cases c
  · go_enter Yba.func11, Yba.ntmps11
    go_wp2
    go_ret
    exact ⟨rfl, rfl⟩
  · go_enter Yba.func11, Yba.ntmps11
    go_wp2
    go_ret
    exact ⟨rfl, rfl⟩
end Go.Proofs.Ybulkadpk
