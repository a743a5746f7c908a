import Derived.Test.YbulkadpkBuild
namespace Go.Proofs.Ybulkadpk
open Go.RowKit Go.QuietTail Go.Shelf
set_option linter.unusedVariables false
set_option linter.unusedSimpArgs false

/-- Where a label set lies: nil; or its cells, two a label, in a block that p allows. -/
def LabsAt (w : World) (a : Option Addr) (c : Nat) (l : List Lab) (p : Nat → Prop) : Prop :=
  (a = none ∧ c = 0 ∧ l = []) ∨ ∃ b o, a = some ⟨b, o, none⟩ ∧ p b ∧ b < w.heap.size ∧ l.length ≤ c ∧ c ≤ 9223372036854775807 ∧
    ∀ k x, l[k]? = some x → w.cell? ⟨b, o + k * 2, none⟩ = some (.string (nm x.1)) ∧ w.cell? ⟨b, o + k * 2 + 1, none⟩ = some (.string x.2)

theorem LabsAt.mono {w : World} {a : Option Addr} {c : Nat} {l : List Lab} {p q : Nat → Prop} (h : LabsAt w a c l p) (hpq : ∀ b, p b → b < w.heap.size → q b) : LabsAt w a c l q := by
  rcases h with h | ⟨b, o, h1, h2, h3, h4⟩
  · exact .inl h
  · exact .inr ⟨b, o, h1, hpq b h2 h3, h3, h4⟩
/-- It lies there as long as its block is not written. -/
theorem LabsAt.kept {w w' : World} {a : Option Addr} {c : Nat} {l : List Lab} {p : Nat → Prop} (h : LabsAt w a c l p) (hs : w.heap.size ≤ w'.heap.size) (hk : ∀ b, p b → b < w.heap.size → w'.heap[b]? = w.heap[b]?) : LabsAt w' a c l p := by
  rcases h with h | ⟨b, o, h1, h2, h3, h4, h5, h6⟩
  · exact .inl h
  · exact .inr ⟨b, o, h1, h2, Nat.lt_of_lt_of_le h3 hs, h4, h5, fun k x hx => ⟨(World.cell?_of_block (w := w) (hk b h2 h3)).trans (h6 k x hx).1, (World.cell?_of_block (w := w) (hk b h2 h3)).trans (h6 k x hx).2⟩⟩
theorem LabsAt.later {w w' : World} {a : Option Addr} {c : Nat} {l : List Lab} {p : Nat → Prop} (h : LabsAt w a c l p) (hb : Below w.heap.size w w') : LabsAt w' a c l p :=
  h.kept hb.size (fun b _ hlt => hb.block b hlt)
theorem flat_get (l : List Lab) : ∀ k x, l[k]? = some x → (flat l)[k * 2]? = some (.string (nm x.1)) ∧ (flat l)[k * 2 + 1]? = some (.string x.2) := by
  induction l with
  | nil => intro k x h; simp at h
  | cons y l ih =>
    intro k x h
    cases k with
    | zero => simp at h; subst h; simp [flat]
    | succ k =>
      simp at h
      have := ih k x h
      have e : flat (y :: l) = .string (nm y.1) :: .string y.2 :: flat l := by simp [flat]
      rw [e, show (k + 1) * 2 = k * 2 + 1 + 1 by omega]
      simpa using this
theorem LabsAt.own {w : World} {B g c : Nat} {l : List Lab} {n : Nat} (hn : n = l.length) (h : w.ownsRow B 36 2 (.slice (some ⟨g, 0, none⟩) n c) n (flat l)) (p : Nat → Prop) (hp : p g) : LabsAt w (some ⟨g, 0, none⟩) c l p := by
  rcases h.2 with ⟨h, _⟩ | ⟨g', cap', cur, h, hbg, hg, hnc, hcm, hcs, htake⟩
  · cases h
  · cases h
    have hlt : g < w.heap.size := by
      rcases Nat.lt_or_ge g w.heap.size with h | h
      · exact h
      · rw [Array.getElem?_eq_none h] at hg; cases hg
    refine .inr ⟨g, 0, rfl, hp, hlt, by omega, by unfold maxLen at hcm; omega, fun k x hx => ?_⟩
    obtain ⟨e1, e2⟩ := flat_get l k x hx
    rw [← htake] at e1 e2
    have hk : k < l.length := by
      rcases Nat.lt_or_ge k l.length with h | h
      · exact h
      · rw [List.getElem?_eq_none h] at hx; cases hx
    rw [List.getElem?_take_of_lt (by omega)] at e1 e2
    refine ⟨?_, ?_⟩
    · rw [cell_of_row w g _ cur 36 (0, 0) hg]; simpa using e1
    · rw [cell_of_row w g _ cur 36 (0, 0) hg]; simpa using e2

theorem bt0 (j : Nat) (h : j < 8) : bt 0 j = false := by
  have : ∀ j : Fin 8, bt 0 j = false := by decide +kernel
  exact this ⟨j, h⟩
theorem blF_none (P : Nat → Bool) (f : Nat → ByteArray) : ∀ n s, (∀ j, s ≤ j → j < s + n → P j = false) → blF P f s n = []
  | 0, s, _ => rfl
  | n + 1, s, h => by
    rw [blF, h s (Nat.le_refl _) (by omega), if_neg (by decide)]
    exact blF_none P f n (s + 1) (fun j h1 h2 => h j (by omega) (by omega))

theorem build_any (m : Nat) (a : Option Addr) (ss : List ByteArray) (cap i : Nat) (w : World) (h : Strs w a ss) (hl : ss.length ≤ 9223372036854775807) (hm : m < 256) (hi : i ≤ 512) :
    Calls Yba.prog 5 #[.int .u8 m, .slice a ss.length cap, .int .i64 i] w fun e w' => ∃ a' c, e = .returned (.slice a' (blT (bt m) (vl ss i) 8).length c) ∧
      LabsAt w' a' c (blT (bt m) (vl ss i) 8) (fun b => w.heap.size ≤ b) ∧ Below w.heap.size w w' := by
  by_cases hm0 : m = 0
  · subst hm0
    have e : blT (bt 0) (vl ss i) 8 = [] := blF_none _ _ 8 0 (fun j _ h => bt0 j (by omega))
    rw [e]
    go_enter Yba.func5, Yba.ntmps5
    go_wp2
    go_ret
    exact ⟨none, 0, rfl, .inl ⟨rfl, rfl, rfl⟩, Below.refl _ _⟩
  · refine (build_some m a ss cap i w h hl hm hm0 hi).mono ?_
    rintro e w' ⟨n, rfl, hn, hO, hB⟩
    subst hn
    exact ⟨_, _, rfl, LabsAt.own rfl hO _ (Nat.le_refl _), hB⟩

set_option maxHeartbeats 1000000 in
theorem eq_same (a a' : Option Addr) (c c' : Nat) (l : List Lab) (p p' : Nat → Prop) (w : World) (h : LabsAt w a c l p) (h' : LabsAt w a' c' l p') :
    Calls Yba.prog 7 #[.slice a l.length c, .slice a' l.length c'] w fun e w' => e = .returned (.bool true) ∧ Below w.heap.size w w' := by
  by_cases h0 : l.length = 0
  · rw [h0]
    go_enter Yba.func7, Yba.ntmps7
    go_wp2
    go_loopw [5] (fun j wr => j = .int .i64 0 ∧ wr = w) (fun _ _ => 0)
    case atStart => exact ⟨rfl, rfl⟩
    case round =>
      obtain ⟨rfl, rfl⟩ := hrel
      go_wp2
      go_ret
      exact ⟨rfl, Below.refl _ _⟩
  · rcases h with ⟨_, _, rfl⟩ | ⟨b, o, rfl, _, _, hc, hcm, H⟩
    · simp at h0
    rcases h' with ⟨_, _, rfl⟩ | ⟨b', o', rfl, _, _, hc', hcm', H'⟩
    · simp at h0
    obtain ⟨n, hn⟩ : ∃ n, n = l.length := ⟨_, rfl⟩
    have HH : Hid (∀ k, k < n → ∃ x : Lab, (w.cell? ⟨b, o + k * 2, none⟩ = some (.string (nm x.1)) ∧ w.cell? ⟨b, o + k * 2 + 1, none⟩ = some (.string x.2)) ∧ (w.cell? ⟨b', o' + k * 2, none⟩ = some (.string (nm x.1)) ∧ w.cell? ⟨b', o' + k * 2 + 1, none⟩ = some (.string x.2))) := by
      intro k hk
      have hx : l[k]? = some (l[k]'(by omega)) := List.getElem?_eq_getElem (by omega)
      exact ⟨_, H k _ hx, H' k _ hx⟩
    rw [← hn] at h0 hc hc' ⊢
    clear H H' hn
    have hm : n ≤ 9223372036854775807 := by omega
    go_enter Yba.func7, Yba.ntmps7
    go_wp2
    go_loopw [5] (fun j wr => ∃ k m : Nat, k ≤ n ∧ j = .int .i64 k ∧ wr = w.drewN m) (fun j _ => n - (intOf j).toNat)
    case atStart => exact ⟨0, 0, by omega, rfl, rfl⟩
    case round =>
      obtain ⟨k, m, hk, rfl, rfl⟩ := hrel
      by_cases hlt : k < n
      · obtain ⟨x, ⟨c1, c2⟩, c3, c4⟩ := HH.out k hlt
        have hlt' : (k : Int) < (n : Int) := by omega
        go_wp2
        go_quiet (fail)
        go_wp2
        go_roundw
        case rel => exact ⟨k + 1, m + nq, by omega, by simp, by simp [World.drewN, Nat.add_assoc]⟩
        case measure => simp [intOf]; omega
      · obtain rfl : k = n := by omega
        go_wp2
        go_ret
        exact ⟨rfl, drewN_below _ _⟩
end Go.Proofs.Ybulkadpk
