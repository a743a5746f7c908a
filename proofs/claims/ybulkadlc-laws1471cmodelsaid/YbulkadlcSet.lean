import Derived.Test.YbulkadlcMid
namespace Go.Proofs.Ybulkadlc
open Go.RowKit Go.QuietTail
set_option linter.unusedVariables false
set_option linter.unusedSimpArgs false

/-- Only block T and v's own block may have turned. -/
structure Kept2 (w w' : World) (T : Nat) (v : Value) : Prop where
  os : w'.os = w.os
  tape : w'.tape = w.tape
  output : w'.output = w.output
  size : w.heap.size ≤ w'.heap.size
  block : ∀ k, k < w.heap.size → k ≠ T → v.ownBlock ≠ some k → w'.heap[k]? = w.heap[k]?

/-- What SetFinger makes of the fingers. -/
def Setted (l : List Fg) (i : Int) (id : List Int) (l' : List Fg) : Prop := FOk l' ∧ Asc l' ∧ l'.length ≤ l.length + 1 ∧ ∀ x, x ∈ l' ↔ x = (i, id) ∨ (x ∈ l ∧ x.1 ≠ i)

theorem setted_set (l : List Fg) (i : Int) (id : List Int) (hi0 : 1 ≤ i) (hi1 : i ≤ 128) (hid : IdOk id) (hok : FOk l) (hasc : Asc l) (k : Nat) (x : Fg) (hx : l[k]? = some x) (hxi : x.1 = i) : Setted l i id (l.set k (i, id)) := by
  have hkl : k < l.length := (List.getElem?_eq_some_iff.1 hx).1
  have hg : ∀ j y, (l.set k (i, id))[j]? = some y → (j = k ∧ y = (i, id)) ∨ (j ≠ k ∧ l[j]? = some y) := fun j y hj => by
    by_cases hjk : j = k
    · subst hjk
      rw [List.getElem?_set_self hkl] at hj
      exact .inl ⟨rfl, (Option.some.inj hj).symm⟩
    · rw [List.getElem?_set_ne (fun e => hjk e.symm)] at hj
      exact .inr ⟨hjk, hj⟩
  refine ⟨fun y hy => ?_, fun j m y z hj hm hjm => ?_, by simp, fun y => ⟨fun hy => ?_, fun hy => ?_⟩⟩
  · rcases List.mem_or_eq_of_mem_set hy with h | rfl
    · exact hok y h
    · exact ⟨⟨by show 0 ≤ i; omega, by show i ≤ 255; omega⟩, hid⟩
  · rcases hg j y hj with ⟨rfl, rfl⟩ | ⟨h1, h2⟩ <;> rcases hg m z hm with ⟨rfl, rfl⟩ | ⟨h3, h4⟩
    · omega
    · have := hasc j m x z hx h4 hjm; show i < z.1; omega
    · have := hasc j m y x h2 hx hjm; show y.1 < i; omega
    · exact hasc j m y z h2 h4 hjm
  · obtain ⟨j, hj⟩ := List.getElem?_of_mem hy
    rcases hg j y hj with ⟨_, h⟩ | ⟨h1, h2⟩
    · exact .inl h
    · refine .inr ⟨List.mem_of_getElem? h2, fun e => ?_⟩
      rcases Nat.lt_or_gt_of_ne h1 with h | h
      · have := hasc j k y x h2 hx h; omega
      · have := hasc k j x y hx h2 h; omega
  · rcases hy with rfl | ⟨hm, hne⟩
    · exact List.mem_of_getElem? (List.getElem?_set_self hkl)
    · obtain ⟨j, hj⟩ := List.getElem?_of_mem hm
      have hjk : k ≠ j := fun e => by subst e; rw [hx] at hj; cases hj; exact hne hxi
      exact List.mem_of_getElem? (i := j) (by rw [List.getElem?_set_ne hjk]; exact hj)

theorem setted_ins (l : List Fg) (i : Int) (id : List Int) (hi0 : 1 ≤ i) (hi1 : i ≤ 128) (hid : IdOk id) (hok : FOk l) (hasc : Asc l) (k : Nat) (hP : Place l i k) (hno : isAt l i k = false) : Setted l i id (l.take k ++ (i, id) :: l.drop k) := by
  have hkl := hP.le
  have htl : (l.take k).length = k := by rw [List.length_take]; omega
  have hg : ∀ j y, (l.take k ++ (i, id) :: l.drop k)[j]? = some y → (j < k ∧ l[j]? = some y) ∨ (j = k ∧ y = (i, id)) ∨ (k < j ∧ l[j - 1]? = some y) := fun j y hj => by
    rcases Nat.lt_trichotomy j k with h | h | h
    · rw [List.getElem?_append_left (by omega), List.getElem?_take, if_pos h] at hj
      exact .inl ⟨h, hj⟩
    · subst h
      rw [List.getElem?_append_right (by omega), htl, Nat.sub_self] at hj
      exact .inr (.inl ⟨rfl, by simpa using hj.symm⟩)
    · rw [List.getElem?_append_right (by omega), htl, show j - k = (j - 1 - k) + 1 by omega, List.getElem?_cons_succ, List.getElem?_drop, show k + (j - 1 - k) = j - 1 by omega] at hj
      exact .inr (.inr ⟨h, hj⟩)
  have hgt : ∀ j y, l[j]? = some y → k ≤ j → i < y.1 := fun j y hj hkj => by
    have h1 := hP.hi j y hj hkj
    have hjl := (List.getElem?_eq_some_iff.1 hj).1
    obtain ⟨z, hz⟩ : ∃ z, l[k]? = some z := ⟨_, List.getElem?_eq_getElem (show k < l.length by omega)⟩
    have hzi := hP.hi k z hz (Nat.le_refl _)
    have hzn : z.1 ≠ i := fun e => by rw [isAt, hz] at hno; simp [e] at hno
    by_cases e : j = k
    · subst e; rw [hz] at hj; cases hj; omega
    · have := hasc k j z y hz hj (by omega); omega
  refine ⟨fun y hy => ?_, fun j m y z hj hm hjm => ?_, ?_, fun y => ⟨fun hy => ?_, fun hy => ?_⟩⟩
  · rw [List.mem_append, List.mem_cons] at hy
    rcases hy with h | rfl | h
    · exact hok y (List.mem_of_mem_take h)
    · exact ⟨⟨by show 0 ≤ i; omega, by show i ≤ 255; omega⟩, hid⟩
    · exact hok y (List.mem_of_mem_drop h)
  · rcases hg j y hj with ⟨h1, h2⟩ | ⟨rfl, rfl⟩ | ⟨h1, h2⟩ <;> rcases hg m z hm with ⟨h3, h4⟩ | ⟨rfl, rfl⟩ | ⟨h3, h4⟩
    · exact hasc j m y z h2 h4 hjm
    · exact hP.lo j y h2 h1
    · exact hasc j (m - 1) y z h2 h4 (by omega)
    · omega
    · omega
    · exact hgt (m - 1) z h4 (by omega)
    · omega
    · omega
    · exact hasc (j - 1) (m - 1) y z h2 h4 (by omega)
  · rw [len_ins l k _ hkl]; exact Nat.le_refl _
  · obtain ⟨j, hj⟩ := List.getElem?_of_mem hy
    rcases hg j y hj with ⟨h1, h2⟩ | ⟨_, h⟩ | ⟨h1, h2⟩
    · refine .inr ⟨List.mem_of_getElem? h2, ?_⟩
      have := hP.lo j y h2 h1; omega
    · exact .inl h
    · refine .inr ⟨List.mem_of_getElem? h2, ?_⟩
      have := hgt (j - 1) y h2 (by omega); omega
  · rw [List.mem_append, List.mem_cons]
    rcases hy with rfl | ⟨hm, _⟩
    · exact .inr (.inl rfl)
    · rw [← List.take_append_drop k l, List.mem_append] at hm
      rcases hm with h | h
      · exact .inl h
      · exact .inr (.inr h)
end Go.Proofs.Ybulkadlc
