import Derived.Test.YbulkadlcPeer
import Derived.Lib.SliceRun
import Derived.OwnWalk
import Derived.Laws.OwnMore
namespace Go.Proofs.Ybulkadlc
open Go.RowKit Go.QuietTail
set_option linter.unusedVariables false
set_option linter.unusedSimpArgs false

/-- A finger: its entry, its peer. -/
abbrev Fg := Int × List Int
def cellsF (x : Fg) : List Value := .int .u8 x.1 :: cellsId x.2
def flatF : List Fg → List Value
  | [] => []
  | x :: l => cellsF x ++ flatF l
def FgOk (x : Fg) : Prop := (0 ≤ x.1 ∧ x.1 ≤ 255) ∧ IdOk x.2
def FOk (l : List Fg) : Prop := ∀ x ∈ l, FgOk x
theorem cellsF_len {x : Fg} (h : FgOk x) : (cellsF x).length = 17 := by simp [cellsF, cellsId, h.2.1]
theorem cellsF_one (x : Fg) : ∀ v ∈ cellsF x, v.oneCell' = true := by
  intro v hv
  simp only [cellsF, List.mem_cons] at hv
  rcases hv with rfl | hv
  · rfl
  · exact cellsId_one _ v hv
theorem FOk.tail {x : Fg} {l : List Fg} (h : FOk (x :: l)) : FOk l := fun y hy => h y (List.mem_cons_of_mem _ hy)
theorem FOk.head {x : Fg} {l : List Fg} (h : FOk (x :: l)) : FgOk x := h x (by simp)
theorem FOk.at {l : List Fg} (h : FOk l) {j : Nat} {x : Fg} (hj : l[j]? = some x) : FgOk x := h x (List.mem_of_getElem? hj)
theorem flatF_len : ∀ {l : List Fg}, FOk l → (flatF l).length = l.length * 17
  | [], _ => rfl
  | x :: l, h => by rw [flatF, List.length_append, cellsF_len h.head, flatF_len h.tail, List.length_cons]; omega
theorem flatF_one : ∀ (l : List Fg), ∀ v ∈ flatF l, v.oneCell' = true
  | [], v, hv => by simp [flatF] at hv
  | x :: l, v, hv => by
    rw [flatF, List.mem_append] at hv
    rcases hv with hv | hv
    · exact cellsF_one x v hv
    · exact flatF_one l v hv
theorem flatF_append : ∀ (l m : List Fg), flatF (l ++ m) = flatF l ++ flatF m
  | [], m => rfl
  | x :: l, m => by rw [List.cons_append, flatF, flatF_append l m, flatF, List.append_assoc]
theorem flatF_at : ∀ {l : List Fg}, FOk l → ∀ {j : Nat} {x : Fg}, l[j]? = some x → ∀ {t : Nat}, t < 17 → (flatF l)[j * 17 + t]? = (cellsF x)[t]?
  | [], _, j, x, hj, t, ht => by simp at hj
  | y :: l, h, 0, x, hj, t, ht => by
    obtain rfl : y = x := by simpa using hj
    rw [flatF, Nat.zero_mul, Nat.zero_add, List.getElem?_append_left (by rw [cellsF_len h.head]; exact ht)]
  | y :: l, h, j + 1, x, hj, t, ht => by
    have hj' : l[j]? = some x := by simpa using hj
    rw [flatF, List.getElem?_append_right (by rw [cellsF_len h.head]; omega), cellsF_len h.head, show (j + 1) * 17 + t - 17 = j * 17 + t by omega]
    exact flatF_at h.tail hj' ht
theorem flatF_take : ∀ {l : List Fg}, FOk l → ∀ (k : Nat), (flatF l).take (k * 17) = flatF (l.take k)
  | [], _, k => by simp [flatF]
  | x :: l, h, 0 => by simp [flatF]
  | x :: l, h, k + 1 => by
    have e : (k + 1) * 17 = (cellsF x).length + k * 17 := by rw [cellsF_len h.head]; omega
    rw [flatF, List.take_succ_cons, flatF, e, List.take_length_add_append, flatF_take h.tail k]
theorem flatF_drop : ∀ {l : List Fg}, FOk l → ∀ (k : Nat), (flatF l).drop (k * 17) = flatF (l.drop k)
  | [], _, k => by simp [flatF]
  | x :: l, h, 0 => by simp
  | x :: l, h, k + 1 => by
    have e : (k + 1) * 17 = (cellsF x).length + k * 17 := by rw [cellsF_len h.head]; omega
    rw [flatF, List.drop_succ_cons, e, List.drop_length_add_append, flatF_drop h.tail k]

/-- THE SLICE v, OF THE CALL's OWN MEMORY, HOLDS THE FINGERS l. -/
def Tab (w : World) (B : Nat) (v : Value) (l : List Fg) : Prop := w.ownsRow B 65 17 v l.length (flatF l)
theorem Tab.kept {w w' : World} {B : Nat} {v : Value} {l : List Fg} {row : Option Nat} (h : Tab w B v l) (hg : w.grownBy w' row) (hne : v.ownBlock = none ∨ v.ownBlock ≠ row) : Tab w' B v l := World.ownsRow.kept h hg hne
theorem Tab.later {w w' : World} {B : Nat} {v : Value} {l : List Fg} (h : Tab w B v l) (hb : Below w.heap.size w w') : Tab w' B v l :=
  World.ownsRow.kept h (grownBy_of_below hb none) (by cases v.ownBlock <;> simp)
theorem Tab.range {w : World} {B g n cap : Nat} {l : List Fg} (h : Tab w B (.slice (some ⟨g, 0, none⟩) n cap) l) (hok : FOk l) {j : Nat} {x : Fg} (hj : l[j]? = some x) : w.rangeAt g (j * 17) (cellsF x) := by
  have hn : n = l.length := by
    rcases h.2 with ⟨h', _⟩ | ⟨g', cap', cur, h', _⟩
    · simp at h'
    · simp at h'; exact h'.2.1
  subst hn
  have hjl : j < l.length := (List.getElem?_eq_some_iff.1 hj).1
  intro t v ht
  have ht17 : t < 17 := by
    have := (List.getElem?_eq_some_iff.1 ht).1
    rw [cellsF_len (hok.at hj)] at this
    exact this
  rw [World.ownsRow.cellAt h (j * 17 + t) (by omega), flatF_at hok hj ht17]
  exact ht

/-! find$1 -/
theorem info65 : (Yba.prog.info? 65).map (·.size) = some 17 := by kernel_rfl
theorem cmp_any (x : Fg) (hx : FgOk x) (i : Int) (hi0 : 0 ≤ i) (hi1 : i ≤ 255) (w : World) :
    Calls Yba.prog 34 #[.agg (cellsF x).toArray, .int .i64 i] w fun e w' => e = .returned (.int .i64 (x.1 - i)) ∧ Below w.heap.size w w' := by
  have hc : (w.alloc (.cells (cellsF x).toArray 65)).cell? ⟨w.heap.size, 0, none⟩ = some (.int .u8 x.1) := by rw [cell_new_row]; rfl
  have hb := (Below.refl w.heap.size w).alloc (Nat.le_refl _) (.cells (cellsF x).toArray 65)
  obtain ⟨⟨h0, h1⟩, _⟩ := hx
  go_enter Yba.func34, Yba.ntmps34
  go_wp2
  go_ret
  exact ⟨rfl, hb⟩
end Go.Proofs.Ybulkadlc
