import Derived.Test.YbulkadlcMid
namespace Go.Proofs.Ybulkadlc
open Go.RowKit Go.QuietTail
set_option linter.unusedVariables false
set_option linter.unusedSimpArgs false

/-! slices of IDs -/
def flatI : List (List Int) → List Value
  | [] => []
  | x :: l => cellsId x ++ flatI l
def IsOk (l : List (List Int)) : Prop := ∀ x ∈ l, IdOk x
theorem cellsId_len {x : List Int} (h : IdOk x) : (cellsId x).length = 16 := by simp [cellsId, h.1]
theorem IsOk.tail {x : List Int} {l : List (List Int)} (h : IsOk (x :: l)) : IsOk l := fun y hy => h y (List.mem_cons_of_mem _ hy)
theorem IsOk.head {x : List Int} {l : List (List Int)} (h : IsOk (x :: l)) : IdOk x := h x (by simp)
theorem IsOk.at {l : List (List Int)} (h : IsOk l) {j : Nat} {x : List Int} (hj : l[j]? = some x) : IdOk x := h x (List.mem_of_getElem? hj)
theorem flatI_len : ∀ {l : List (List Int)}, IsOk l → (flatI l).length = l.length * 16
  | [], _ => rfl
  | x :: l, h => by rw [flatI, List.length_append, cellsId_len h.head, flatI_len h.tail, List.length_cons]; omega
theorem flatI_one : ∀ (l : List (List Int)), ∀ v ∈ flatI l, v.oneCell' = true
  | [], v, hv => by simp [flatI] at hv
  | x :: l, v, hv => by
    rw [flatI, List.mem_append] at hv
    rcases hv with hv | hv
    · exact cellsId_one x v hv
    · exact flatI_one l v hv
theorem flatI_append : ∀ (l m : List (List Int)), flatI (l ++ m) = flatI l ++ flatI m
  | [], m => rfl
  | x :: l, m => by rw [List.cons_append, flatI, flatI_append l m, flatI, List.append_assoc]
theorem flatI_at : ∀ {l : List (List Int)}, IsOk l → ∀ {j : Nat} {x : List Int}, l[j]? = some x → ∀ {t : Nat}, t < 16 → (flatI l)[j * 16 + t]? = (cellsId x)[t]?
  | [], _, j, x, hj, t, ht => by simp at hj
  | y :: l, h, 0, x, hj, t, ht => by
    obtain rfl : y = x := by simpa using hj
    rw [flatI, Nat.zero_mul, Nat.zero_add, List.getElem?_append_left (by rw [cellsId_len h.head]; exact ht)]
  | y :: l, h, j + 1, x, hj, t, ht => by
    have hj' : l[j]? = some x := by simpa using hj
    rw [flatI, List.getElem?_append_right (by rw [cellsId_len h.head]; omega), cellsId_len h.head, show (j + 1) * 16 + t - 16 = j * 16 + t by omega]
    exact flatI_at h.tail hj' ht
theorem flatI_take : ∀ {l : List (List Int)}, IsOk l → ∀ (k : Nat), (flatI l).take (k * 16) = flatI (l.take k)
  | [], _, k => by simp [flatI]
  | x :: l, h, 0 => by simp [flatI]
  | x :: l, h, k + 1 => by
    have e : (k + 1) * 16 = (cellsId x).length + k * 16 := by rw [cellsId_len h.head]; omega
    rw [flatI, List.take_succ_cons, flatI, e, List.take_length_add_append, flatI_take h.tail k]
theorem flatI_drop : ∀ {l : List (List Int)}, IsOk l → ∀ (k : Nat), (flatI l).drop (k * 16) = flatI (l.drop k)
  | [], _, k => by simp [flatI]
  | x :: l, h, 0 => by simp
  | x :: l, h, k + 1 => by
    have e : (k + 1) * 16 = (cellsId x).length + k * 16 := by rw [cellsId_len h.head]; omega
    rw [flatI, List.drop_succ_cons, e, List.drop_length_add_append, flatI_drop h.tail k]

/-- THE SLICE v, OF THE CALL's OWN MEMORY, HOLDS THE IDS l. -/
def Ids (w : World) (B : Nat) (v : Value) (l : List (List Int)) : Prop := w.ownsRow B 23 16 v l.length (flatI l)
theorem Ids.kept {w w' : World} {B : Nat} {v : Value} {l : List (List Int)} {row : Option Nat} (h : Ids w B v l) (hg : w.grownBy w' row) (hne : v.ownBlock = none ∨ v.ownBlock ≠ row) : Ids w' B v l := World.ownsRow.kept h hg hne
theorem Ids.later {w w' : World} {B : Nat} {v : Value} {l : List (List Int)} (h : Ids w B v l) (hb : Below w.heap.size w w') : Ids w' B v l :=
  World.ownsRow.kept h (grownBy_of_below hb none) (by cases v.ownBlock <;> simp)
theorem Ids.range {w : World} {B g n cap : Nat} {l : List (List Int)} (h : Ids w B (.slice (some ⟨g, 0, none⟩) n cap) l) (hok : IsOk l) {j : Nat} {x : List Int} (hj : l[j]? = some x) : w.rangeAt g (j * 16) (cellsId x) := by
  have hn : n = l.length := by
    rcases h.2 with ⟨h', _⟩ | ⟨g', cap', cur, h', _⟩
    · simp at h'
    · simp at h'; exact h'.2.1
  subst hn
  have hjl : j < l.length := (List.getElem?_eq_some_iff.1 hj).1
  intro t v ht
  have ht16 : t < 16 := by
    have := (List.getElem?_eq_some_iff.1 ht).1
    rw [cellsId_len (hok.at hj)] at this
    exact this
  rw [World.ownsRow.cellAt h (j * 16 + t) (by omega), flatI_at hok hj ht16]
  exact ht
theorem Ids.form {w : World} {B : Nat} {v : Value} {l : List (List Int)} (h : Ids w B v l) : (v = .slice none 0 0 ∧ l = []) ∨ ∃ g c, v = .slice (some ⟨g, 0, none⟩) l.length c ∧ l.length ≤ c ∧ c ≤ 9223372036854775807 ∧ g < w.heap.size ∧ B ≤ g := by
  rcases h.2 with ⟨hv, hn⟩ | ⟨g, cap, cur, hv, hB, hg, h1, h2, _⟩
  · exact .inl ⟨hv, List.eq_nil_of_length_eq_zero hn⟩
  · exact .inr ⟨g, cap, hv, h1, by unfold maxLen at h2; omega, (Array.getElem?_eq_some_iff.1 hg).1, hB⟩

def zeroI : Value := .agg (cellsId zero16).toArray
theorem info23z : (Yba.prog.info? 23).map (fun i => (i.zero, i.size, i.bytes)) = some (some zeroI, 16, 16) := by kernel_rfl
theorem zeroI_size : zeroI.cells.size = 16 := by kernel_rfl

set_option maxHeartbeats 1000000 in
theorem clone_some (b off n c : Nat) (ss : List (List Int)) (w : World) (hok : IsOk ss) (hln : ss.length = n) (hn : n ≤ 4096) (hc : ∀ j u, (flatI ss)[j]? = some u → w.cell? ⟨b, off + j, none⟩ = some u) :
    Calls Yba.prog 6 #[.slice (some ⟨b, off, none⟩) n c] w fun e w' => ∃ v, e = .returned v ∧ Ids w' w.heap.size v ss ∧ Below w.heap.size w w' := by
  obtain ⟨i0, hi0, hz0, hz1, hz2⟩ := info_parts info23z
  have q24 : ∀ (w : World) (a : Option Addr) (n c n' c' : Nat), (binOp .eql 24 (.slice a n c) (.slice none n' c')).run Yba.prog w = .ok (.bool a.isNone) w := fun w a n c n' c' => Lib.run_eql_slice_nil w _ _ a n c n' c' Yba.underlying24
  have HC : Hid (∀ j u, (flatI ss)[j]? = some u → w.cell? ⟨b, off + j, none⟩ = some u) := hc
  have HL : Hid (ss.length = n) := hln
  clear hc hln
  go_enter Yba.func6, Yba.ntmps6
  go_wp2_with (at_builtin; refine wpList_append_own _ rfl (.tmp 5) (.tmp 6) 24 rfl w.heap.size 23 i0 zeroI 16 16 Yba.underlying24 hi0 hz0 hz1 hz2 zeroI_size (by omega) _ _ _ rfl (World.ownsRow_made w #[] 0 (Nat.le_refl _) (Nat.zero_le _) (by simp)) ⟨b, off, none⟩ n c (flatI ss) rfl ?qc1 ?qc2 (flatI_one ss) ?qc4 ?qc5 ?qc6 ?_)
  case qc1 => rw [flatI_len hok, HL.out]
  case qc2 =>
    intro j u hj
    rw [Addr.add_mid]
    exact Lib.cell?_alloc_some _ (HC.out j u hj)
  case qc4 => unfold maxLen; omega
  case qc5 => omega
  case qc6 => simp
  intro v' w1 hown hgrow hnil
  go_wp2
  go_ret
  refine ⟨v', rfl, ?_, ?_⟩
  · unfold Ids; rw [HL.out]; simpa using hown
  · exact ((Below.refl _ w).alloc (Nat.le_refl _) _).grown hgrow (by simp) (by intro k hk; simp [Value.ownBlock] at hk; omega)
theorem clone_nil (w : World) : Calls Yba.prog 6 #[.slice none 0 0] w fun e w' => ∃ v, e = .returned v ∧ Ids w' w.heap.size v [] ∧ Below w.heap.size w w' := by
  have q24 : ∀ (w : World) (a : Option Addr) (n c n' c' : Nat), (binOp .eql 24 (.slice a n c) (.slice none n' c')).run Yba.prog w = .ok (.bool a.isNone) w := fun w a n c n' c' => Lib.run_eql_slice_nil w _ _ a n c n' c' Yba.underlying24
  go_enter Yba.func6, Yba.ntmps6
  go_wp2
  go_ret
  exact ⟨_, rfl, World.ownsRow_nil _ _ _ _, Below.refl _ _⟩
end Go.Proofs.Ybulkadlc
