/- The plain part, more: the whole answer as bytes; what the law tallies; that the two agree. -/
import Derived.Test.YbulkadjmFmtPlain
namespace Go.Proofs.YbulkadjmFmt

/-- What the law tallies while it builds: how many OPT records the additional section holds, and where the last one's class lies. -/
def tally (kk : Nat) : List Rec → Nat → Nat → Nat → Int → Nat × Int
  | [], _, _, c, a => (c, a)
  | r :: rs, i, off, c, a => if kk ≤ i ∧ r.opt = true then tally kk rs (i + 1) (off + r.len) (c + 1) ((off + r.d + 2 : Nat) : Int) else tally kk rs (i + 1) (off + r.len) c a

theorem tally_cons (kk : Nat) (r : Rec) (rs : List Rec) (i off c : Nat) (a : Int) :
    tally kk (r :: rs) i off c a = if kk ≤ i ∧ r.opt = true then tally kk rs (i + 1) (off + r.len) (c + 1) ((off + r.d + 2 : Nat) : Int) else tally kk rs (i + 1) (off + r.len) c a := rfl

theorem tally_mono (kk : Nat) (rs : List Rec) : ∀ (i off c : Nat) (a : Int), c ≤ (tally kk rs i off c a).1 := by
  induction rs with
  | nil => intro i off c a; exact Nat.le_refl _
  | cons r rs ih =>
    intro i off c a
    rw [tally_cons]
    split
    · exact Nat.le_trans (Nat.le_succ c) (ih _ _ _ _)
    · exact ih _ _ _ _

/-- Nothing more is found: the class stays where it was. -/
theorem tally_same (kk : Nat) (rs : List Rec) : ∀ (i off c : Nat) (a : Int), (tally kk rs i off c a).1 = c → (tally kk rs i off c a).2 = a := by
  induction rs with
  | nil => intro i off c a _; rfl
  | cons r rs ih =>
    intro i off c a
    rw [tally_cons]
    split
    · intro h
      have := tally_mono kk rs (i + 1) (off + r.len) (c + 1) ((off + r.d + 2 : Nat) : Int)
      omega
    · exact ih _ _ _ _

theorem lenAll_cons (r : Rec) (rs : List Rec) : lenAll (r :: rs) = r.len + lenAll rs := by simp [lenAll]
theorem lenAll_nil : lenAll [] = 0 := rfl
theorem len_pos (r : Rec) : 0 < r.len := by unfold Rec.len; omega

/-- The message is whole: the scan with one record found already. -/
theorem scan_some (kk : Nat) (rs : List Rec) : ∀ (L i off d : Nat) (a : Int), off + lenAll rs ≤ L →
    scan kk L rs i off (some d) = if (tally kk rs i off 1 a).1 = 1 then some (some d) else none := by
  induction rs with
  | nil => intro L i off d a _; simp [scan, tally]
  | cons r rs ih =>
    intro L i off d a h
    rw [lenAll_cons] at h
    rw [scan_cons, if_neg (by omega), tally_cons]
    by_cases hc : kk ≤ i ∧ r.opt = true
    · rw [if_pos hc, if_pos hc]
      have := tally_mono kk rs (i + 1) (off + r.len) (1 + 1) ((off + r.d + 2 : Nat) : Int)
      rw [if_neg (by omega)]
    · rw [if_neg hc, if_neg hc]
      exact ih L _ _ _ _ (by omega)

theorem scan_whole (kk : Nat) (rs : List Rec) : ∀ (L i off : Nat) (a : Int), off + lenAll rs ≤ L →
    scan kk L rs i off none = if (tally kk rs i off 0 a).1 = 0 then some none else if (tally kk rs i off 0 a).1 = 1 then some (some ((tally kk rs i off 0 a).2 + 8).toNat) else none := by
  induction rs with
  | nil => intro L i off a _; simp [scan, tally]
  | cons r rs ih =>
    intro L i off a h
    rw [lenAll_cons] at h
    rw [scan_cons, if_neg (by omega), tally_cons]
    by_cases hc : kk ≤ i ∧ r.opt = true
    · rw [if_pos hc, if_pos hc]
      have hm := tally_mono kk rs (i + 1) (off + r.len) (0 + 1) ((off + r.d + 2 : Nat) : Int)
      rw [if_neg (by omega)]
      show scan kk L rs (i + 1) (off + r.len) (some (off + r.d + 10)) = _
      rw [scan_some kk rs L (i + 1) (off + r.len) (off + r.d + 10) ((off + r.d + 2 : Nat) : Int) (by omega)]
      by_cases h1 : (tally kk rs (i + 1) (off + r.len) (0 + 1) ((off + r.d + 2 : Nat) : Int)).1 = 1
      · rw [if_pos h1, if_pos h1, tally_same kk rs _ _ _ _ h1]
        congr 2
      · rw [if_neg h1, if_neg h1]
    · rw [if_neg hc, if_neg hc]
      exact ih L _ _ _ (by omega)

/-- The message is cut short: an error, wherever. -/
theorem scan_cut (kk : Nat) (rs : List Rec) : ∀ (L i off : Nat) (st : Option Nat), rs ≠ [] → L < off + lenAll rs → scan kk L rs i off st = none := by
  induction rs with
  | nil => intro L i off st h _; exact absurd rfl h
  | cons r rs ih =>
    intro L i off st _ h
    rw [lenAll_cons] at h
    rw [scan_cons]
    by_cases h1 : L < off + r.len
    · rw [if_pos h1]
    · rw [if_neg h1]
      have hne : rs ≠ [] := by
        intro e
        subst e
        rw [lenAll_nil] at h
        omega
      split
      · cases st with
        | some _ => rfl
        | none => exact ih _ _ _ _ hne (by omega)
      · exact ih _ _ _ _ hne (by omega)

/-- Where the class lies: inside the message. -/
theorem tally_at (kk : Nat) (rs : List Rec) : ∀ (i off c : Nat) (a : Int) (L : Nat), off + lenAll rs ≤ L → (c = 0 ∨ (12 ≤ a ∧ a + 2 ≤ L)) → 12 ≤ off → (tally kk rs i off c a).1 ≠ 0 → 12 ≤ (tally kk rs i off c a).2 ∧ (tally kk rs i off c a).2 + 2 ≤ L := by
  induction rs with
  | nil =>
    intro i off c a L _ h _ hn
    rcases h with h | h
    · exact absurd h hn
    · exact h
  | cons r rs ih =>
    intro i off c a L hL h ho hn
    rw [lenAll_cons] at hL
    rw [tally_cons] at hn ⊢
    split
    · rename_i hc
      rw [if_pos hc] at hn
      refine ih _ _ _ _ L (by omega) (Or.inr ?_) (by omega) hn
      have := r.d_cases
      unfold Rec.len at hL
      omega
    · rename_i hc
      rw [if_neg hc] at hn
      exact ih _ _ _ _ L (by omega) h (by omega) hn

def hdr (hid flags qd kk m : Int) : List Int := [hid / 256, hid % 256, flags / 256, flags % 256, qd / 256, qd % 256, kk / 256, kk % 256, 0, 0, m / 256, m % 256]
def areaAt (aq : List Int) (i : Nat) : Int := if aq.length = 0 then 0 else aq.getD (i % aq.length) 0
def area (aq : List Int) (m : Nat) : List Int := (List.range m).map (areaAt aq)
theorem area_succ (aq : List Int) (m : Nat) : area aq (m + 1) = area aq m ++ [areaAt aq m] := by unfold area; rw [List.range_succ]; simp
theorem area_length (aq : List Int) (m : Nat) : (area aq m).length = m := by simp [area]
theorem hdr_length (hid flags qd kk m : Int) : (hdr hid flags qd kk m).length = 12 := rfl

end Go.Proofs.YbulkadjmFmt
