import Derived.Below
namespace Go.Proofs.Ybulkadlc
set_option linter.unusedVariables false
set_option linter.unusedSimpArgs false
set_option linter.unusedSectionVars false

section
variable {α : Type} [DecidableEq α]

theorem nodup_len : ∀ (l m : List α), l.Nodup → (∀ x ∈ l, x ∈ m) → l.length ≤ m.length
  | [], m, _, _ => Nat.zero_le _
  | a :: t, m, hn, hs => by
    rw [List.nodup_cons] at hn
    have ha : a ∈ m := hs a (by simp)
    have ih := nodup_len t (m.erase a) hn.2 (fun x hx => by
      have hxa : x ≠ a := fun e => hn.1 (e ▸ hx)
      rw [List.mem_erase_of_ne hxa]
      exact hs x (by simp [hx]))
    rw [List.length_erase_of_mem ha] at ih
    have : 0 < m.length := List.length_pos_of_mem ha
    simp only [List.length_cons]
    omega

variable (K : α → Int)
def Srt (l : List α) : Prop := l.Pairwise (fun x y => K x < K y)
theorem Srt.nodup {l : List α} (h : Srt K l) : l.Nodup := List.Pairwise.imp (fun {x y} hxy (e : x = y) => by subst e; omega) h
theorem srt_ext : ∀ (l m : List α), Srt K l → Srt K m → (∀ x, x ∈ l ↔ x ∈ m) → l = m
  | [], [], _, _, _ => rfl
  | [], b :: m, _, _, h => by have := (h b).2 (by simp); simp at this
  | a :: l, [], _, _, h => by have := (h a).1 (by simp); simp at this
  | a :: l, b :: m, hl, hm, h => by
    have hl' := List.pairwise_cons.1 hl
    have hm' := List.pairwise_cons.1 hm
    have hab : a = b := by
      rcases List.mem_cons.1 ((h a).1 (by simp)) with e | ha
      · exact e
      · rcases List.mem_cons.1 ((h b).2 (by simp)) with e | hb
        · exact e.symm
        · have := hm'.1 a ha; have := hl'.1 b hb; omega
    subst hab
    congr 1
    refine srt_ext l m hl'.2 hm'.2 fun x => ⟨fun hx => ?_, fun hx => ?_⟩
    · rcases List.mem_cons.1 ((h x).1 (by simp [hx])) with e | h1
      · subst e; have := hl'.1 x hx; omega
      · exact h1
    · rcases List.mem_cons.1 ((h x).2 (by simp [hx])) with e | h1
      · subst e; have := hm'.1 x hx; omega
      · exact h1

/-- l: the three nearest of X, or as many as there are, each once, the nearest first. -/
structure Near (X l : List α) : Prop where
  srt : Srt K l
  sub : ∀ x ∈ l, x ∈ X
  len : l.length ≤ 3
  rest : ∀ x ∈ X, x ∈ l ∨ (l.length = 3 ∧ ∀ y ∈ l, K y < K x)

theorem Near.nil : Near K ([] : List α) [] := ⟨List.Pairwise.nil, fun x hx => hx, by simp, fun x hx => by simp at hx⟩
theorem Near.congr {X Y l : List α} (h : Near K X l) (he : ∀ x, x ∈ X ↔ x ∈ Y) : Near K Y l := ⟨h.srt, fun x hx => (he x).1 (h.sub x hx), h.len, fun x hx => h.rest x ((he x).2 hx)⟩
theorem Near.mono {X Y l : List α} (h : Near K X l) (hs : ∀ x ∈ Y, x ∈ X) (hl : ∀ x ∈ l, x ∈ Y) : Near K Y l := ⟨h.srt, hl, h.len, fun x hx => h.rest x (hs x hx)⟩
theorem near_sub {X Y l m : List α} (hl : Near K X l) (hm : Near K Y m) (he : ∀ x, x ∈ X ↔ x ∈ Y) : ∀ x ∈ l, x ∈ m := by
  intro x hx
  rcases hm.rest x ((he x).1 (hl.sub x hx)) with h | ⟨h3, hall⟩
  · exact h
  · exfalso
    have hxm : x ∉ m := fun h => by have := hall x h; omega
    have hsub : ∀ y ∈ m, y ∈ l := fun y hy => by
      rcases hl.rest y ((he y).2 (hm.sub y hy)) with h | ⟨_, h⟩
      · exact h
      · have := h x hx; have := hall y hy; omega
    have := nodup_len (x :: m) l (List.nodup_cons.2 ⟨hxm, hm.srt.nodup⟩) (fun y hy => by
      rcases List.mem_cons.1 hy with rfl | h
      · exact hx
      · exact hsub y h)
    have := hl.len
    simp only [List.length_cons] at *
    omega
theorem near_uniq {X Y l m : List α} (hl : Near K X l) (hm : Near K Y m) (he : ∀ x, x ∈ X ↔ x ∈ Y) : l = m :=
  srt_ext K l m hl.srt hm.srt fun x => ⟨near_sub K hl hm he x, near_sub K hm hl (fun y => (he y).symm) x⟩

/-- One more peer. i: how many of l lie no farther than d. -/
def insAt (l : List α) (d : α) (i : Nat) : List α := if i = 3 ∨ (0 < i ∧ l[i - 1]? = some d) then l else (l.take i ++ d :: l.drop i).take 3
theorem near_step {X l : List α} (h : Near K X l) (d : α) (i : Nat) (hi : i ≤ l.length) (hlo : ∀ (j : Nat) x, l[j]? = some x → j < i → K x ≤ K d) (hhi : ∀ (j : Nat) x, l[j]? = some x → i ≤ j → K d < K x)
    (inj : ∀ x ∈ X, K x = K d → x = d) : Near K (X ++ [d]) (insAt l d i) := by
  have hlen := h.len
  unfold insAt
  by_cases hc : i = 3 ∨ (0 < i ∧ l[i - 1]? = some d)
  · rw [if_pos hc]
    refine ⟨h.srt, fun x hx => List.mem_append_left _ (h.sub x hx), h.len, fun x hx => ?_⟩
    rcases List.mem_append.1 hx with hx | hx
    · exact h.rest x hx
    · obtain rfl : x = d := by simpa using hx
      by_cases hd : x ∈ l
      · exact .inl hd
      · rcases hc with h3 | ⟨_, he⟩
        · refine .inr ⟨by omega, fun y hy => ?_⟩
          obtain ⟨j, hj⟩ := List.getElem?_of_mem hy
          have hjl := (List.getElem?_eq_some_iff.1 hj).1
          have h1 := hlo j y hj (by omega)
          have h2 : K y ≠ K x := fun e => hd (by rw [← inj y (h.sub y hy) e]; exact hy)
          omega
        · exact absurd (List.mem_of_getElem? he) hd
  · rw [if_neg hc]
    rw [not_or, not_and] at hc
    have hlt : ∀ (j : Nat) x, l[j]? = some x → j < i → K x < K d := fun j x hj hji => by
      have h1 := hlo j x hj hji
      by_cases he : K x = K d
      · exfalso
        have hxd := inj x (h.sub x (List.mem_of_getElem? hj)) he
        have hil : i - 1 < l.length := by omega
        obtain ⟨y, hy⟩ : ∃ y, l[i - 1]? = some y := ⟨_, List.getElem?_eq_getElem hil⟩
        by_cases hj1 : j = i - 1
        · subst hj1; exact hc.2 (by omega) (by rw [hj, hxd])
        · have h2 : K x < K y := by
            have := List.pairwise_iff_getElem.1 h.srt j (i - 1) (by omega) hil (by omega)
            rw [List.getElem?_eq_getElem (by omega)] at hj hy
            rw [← Option.some.inj hj, ← Option.some.inj hy]
            exact this
          have := hlo (i - 1) y hy (by omega)
          omega
      · omega
    have hmt : ∀ x ∈ l.take i, K x < K d := fun x hx => by
      obtain ⟨j, hj⟩ := List.getElem?_of_mem hx
      rw [List.getElem?_take] at hj
      split at hj
      · exact hlt j x hj (by assumption)
      · cases hj
    have hmd : ∀ x ∈ l.drop i, K d < K x := fun x hx => by
      obtain ⟨j, hj⟩ := List.getElem?_of_mem hx
      rw [List.getElem?_drop] at hj
      exact hhi (i + j) x hj (by omega)
    have hS : Srt K (l.take i ++ d :: l.drop i) := by
      unfold Srt
      rw [List.pairwise_append, List.pairwise_cons]
      refine ⟨List.Pairwise.sublist (List.take_sublist _ _) h.srt, ⟨hmd, List.Pairwise.sublist (List.drop_sublist _ _) h.srt⟩, fun x hx y hy => ?_⟩
      rcases List.mem_cons.1 hy with rfl | hy
      · exact hmt x hx
      · have := hmt x hx; have := hmd y hy; omega
    have hmem : ∀ x, x ∈ l.take i ++ d :: l.drop i ↔ x = d ∨ x ∈ l := fun x => by
      rw [List.mem_append, List.mem_cons]
      constructor
      · rintro (h | h | h)
        · exact .inr (List.mem_of_mem_take h)
        · exact .inl h
        · exact .inr (List.mem_of_mem_drop h)
      · rintro (h | h)
        · exact .inr (.inl h)
        · rw [← List.take_append_drop i l, List.mem_append] at h
          rcases h with h | h
          · exact .inl h
          · exact .inr (.inr h)
    have hL : (l.take i ++ d :: l.drop i).length = l.length + 1 := by simp; omega
    refine ⟨List.Pairwise.sublist (List.take_sublist _ _) hS, fun x hx => ?_, by simp; omega, fun x hx => ?_⟩
    · rcases (hmem x).1 (List.mem_of_mem_take hx) with rfl | hx
      · simp
      · exact List.mem_append_left _ (h.sub x hx)
    · have hd3 : d ∈ (l.take i ++ d :: l.drop i).take 3 := by
        refine List.mem_of_getElem? (i := i) ?_
        rw [List.getElem?_take, if_pos (by omega), List.getElem?_append_right (by simp; omega), List.length_take, Nat.min_eq_left hi, Nat.sub_self]
        rfl
      have key : ∀ z, z ∈ l → z ∈ (l.take i ++ d :: l.drop i).take 3 ∨ (((l.take i ++ d :: l.drop i).take 3).length = 3 ∧ ∀ y ∈ (l.take i ++ d :: l.drop i).take 3, K y < K z) := fun z hz => by
        have hz' := (hmem z).2 (.inr hz)
        rw [← List.take_append_drop 3 (l.take i ++ d :: l.drop i), List.mem_append] at hz'
        rcases hz' with h1 | h1
        · exact .inl h1
        · refine .inr ⟨?_, fun y hy => ?_⟩
          · have := List.length_pos_of_mem h1
            rw [List.length_drop] at this
            rw [List.length_take]; omega
          · have hP := hS
            unfold Srt at hP
            rw [← List.take_append_drop 3 (l.take i ++ d :: l.drop i), List.pairwise_append] at hP
            exact hP.2.2 y hy z h1
      rcases List.mem_append.1 hx with hx | hx
      · rcases h.rest x hx with h1 | ⟨h3, hall⟩
        · exact key x h1
        · refine .inr ⟨by rw [List.length_take, hL]; omega, fun y hy => ?_⟩
          rcases (hmem y).1 (List.mem_of_mem_take hy) with rfl | hy
          · have h2l : 2 < l.length := by omega
            have h2 := hhi 2 l[2] (List.getElem?_eq_getElem h2l) (by omega)
            have h4 := hall l[2] (List.getElem_mem h2l)
            omega
          · exact hall y hy
      · obtain rfl : x = d := by simpa using hx
        exact .inl hd3

/-- The law's count. -/
theorem near_count {H s s' : List α} {d : α} (hs : Near K H s) (hs' : Near K (H ++ [d]) s') (hn : H.Nodup) (hd : d ∉ H) (inj : ∀ x ∈ H, K x ≠ K d) :
    (s' ≠ s ↔ (H.filter (fun x => decide (K x < K d))).length < 3) := by
  have hF : ∀ x, x ∈ H.filter (fun x => decide (K x < K d)) ↔ x ∈ H ∧ K x < K d := fun x => by rw [List.mem_filter]; simp
  have hFn : (H.filter (fun x => decide (K x < K d))).Nodup := hn.sublist List.filter_sublist
  constructor
  · intro hne
    refine Nat.lt_of_not_le fun h3 => hne ?_
    refine near_uniq K hs' (Y := H ++ [d]) (m := s) ⟨hs.srt, fun x hx => List.mem_append_left _ (hs.sub x hx), hs.len, fun x hx => ?_⟩ (fun _ => Iff.rfl)
    rcases List.mem_append.1 hx with hx | hx
    · exact hs.rest x hx
    · obtain rfl : x = d := by simpa using hx
      by_cases hsub : ∀ y ∈ H.filter (fun y => decide (K y < K x)), y ∈ s
      · have h1 := nodup_len _ s hFn hsub
        have h2 := hs.len
        refine .inr ⟨by omega, fun y hy => ?_⟩
        by_cases hyF : y ∈ H.filter (fun y => decide (K y < K x))
        · exact ((hF y).1 hyF).2
        · have := nodup_len (y :: H.filter (fun y => decide (K y < K x))) s (List.nodup_cons.2 ⟨hyF, hFn⟩) (fun z hz => by
            rcases List.mem_cons.1 hz with rfl | hz
            · exact hy
            · exact hsub z hz)
          simp only [List.length_cons] at this
          omega
      · obtain ⟨y, hy, hys⟩ : ∃ y, y ∈ H.filter (fun y => decide (K y < K x)) ∧ y ∉ s := by
          refine Classical.byContradiction fun hno => hsub fun y hy => Classical.byContradiction fun hys => hno ⟨y, hy, hys⟩
        have hyH := (hF y).1 hy
        rcases hs.rest y hyH.1 with h | ⟨h3', hall⟩
        · exact absurd h hys
        · exact .inr ⟨h3', fun z hz => by have := hall z hz; omega⟩
  · intro hlt e
    subst e
    rcases hs'.rest d (by simp) with h | ⟨h3, hall⟩
    · exact hd (hs.sub d h)
    · have := nodup_len s' _ hs'.srt.nodup (fun y hy => (hF y).2 ⟨hs.sub y hy, hall y hy⟩)
      omega
end
end Go.Proofs.Ybulkadlc
