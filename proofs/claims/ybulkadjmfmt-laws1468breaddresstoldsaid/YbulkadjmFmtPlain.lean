/- The plain part of the law on Readdress: records as bytes, and the scan for the OPT record. No Go in sight. -/
namespace Go.Proofs.YbulkadjmFmt

/-- One record of the answer that the law builds. -/
structure Rec where
  ptr : Bool
  opt : Bool
  cls : Int
  ttl : Int
  data : List Int

def Rec.d (r : Rec) : Nat := if r.ptr then 2 else 1
def Rec.typ (r : Rec) : Int := if r.opt then 41 else 1
def Rec.name (r : Rec) : List Int := if r.ptr then [192, 12] else [0]
def be16 (x : Int) : List Int := [x / 256, x % 256]
def be32 (x : Int) : List Int := [x / 16777216, x / 65536 % 256, x / 256 % 256, x % 256]
def Rec.enc (r : Rec) : List Int := ((((r.name ++ be16 r.typ) ++ be16 r.cls) ++ be32 r.ttl) ++ be16 r.data.length) ++ r.data
def Rec.len (r : Rec) : Nat := r.d + 10 + r.data.length

structure Rec.Ok (r : Rec) : Prop where
  cls0 : 0 ≤ r.cls
  cls1 : r.cls ≤ 65535
  ttl0 : 0 ≤ r.ttl
  ttl1 : r.ttl ≤ 4294967295
  short : r.data.length ≤ 300
  bytes : ∀ x ∈ r.data, 0 ≤ x ∧ x ≤ 255

theorem Rec.enc_length (r : Rec) : r.enc.length = r.len := by
  unfold Rec.enc Rec.len Rec.name Rec.d be16 be32
  split <;> simp <;> omega

theorem Rec.d_cases (r : Rec) : r.d = 1 ∨ r.d = 2 := by unfold Rec.d; split <;> simp

/-- The bytes of a record, place by place. -/
theorem Rec.enc_head (r : Rec) : (r.ptr = false ∧ r.enc.getD 0 0 = 0 ∧ r.d = 1) ∨ (r.ptr = true ∧ r.enc.getD 0 0 = 192 ∧ r.d = 2) := by
  unfold Rec.enc Rec.name Rec.d be16
  cases h : r.ptr <;> simp

theorem Rec.enc_fix (r : Rec) : r.enc.getD r.d 0 = r.typ / 256 ∧ r.enc.getD (r.d + 1) 0 = r.typ % 256 ∧ r.enc.getD (r.d + 2) 0 = r.cls / 256 ∧ r.enc.getD (r.d + 3) 0 = r.cls % 256 ∧
    r.enc.getD (r.d + 4) 0 = r.ttl / 16777216 ∧ r.enc.getD (r.d + 5) 0 = r.ttl / 65536 % 256 ∧ r.enc.getD (r.d + 6) 0 = r.ttl / 256 % 256 ∧ r.enc.getD (r.d + 7) 0 = r.ttl % 256 ∧
    r.enc.getD (r.d + 8) 0 = (r.data.length : Int) / 256 ∧ r.enc.getD (r.d + 9) 0 = (r.data.length : Int) % 256 := by
  unfold Rec.enc Rec.name Rec.d be16 be32
  cases h : r.ptr <;> simp

/-- THE SCAN for the OPT record of the additional section: none: an error; some none: there is no such record; some d: its data lie at d. L: the message's length; off: where the next record begins; i: its number; kk: the first number of the additional section. -/
def scan (kk L : Nat) : List Rec → Nat → Nat → Option Nat → Option (Option Nat)
  | [], _, _, st => some st
  | r :: rs, i, off, st =>
    if L < off + r.len then none
    else if kk ≤ i ∧ r.opt = true then
      match st with
      | some _ => none
      | none => scan kk L rs (i + 1) (off + r.len) (some (off + r.d + 10))
    else scan kk L rs (i + 1) (off + r.len) st

theorem scan_cons (kk L : Nat) (r : Rec) (rs : List Rec) (i off : Nat) (st : Option Nat) : scan kk L (r :: rs) i off st =
    if L < off + r.len then none
    else if kk ≤ i ∧ r.opt = true then
      match st with
      | some _ => none
      | none => scan kk L rs (i + 1) (off + r.len) (some (off + r.d + 10))
    else scan kk L rs (i + 1) (off + r.len) st := by
  cases st <;> rfl

def encAll (rs : List Rec) : List Int := rs.flatMap Rec.enc
def lenAll (rs : List Rec) : Nat := (rs.map Rec.len).sum

theorem encAll_length (rs : List Rec) : (encAll rs).length = lenAll rs := by
  unfold encAll lenAll
  induction rs with
  | nil => rfl
  | cons r rs ih => simp only [List.flatMap_cons, List.length_append, List.map_cons, List.sum_cons, Rec.enc_length]; rw [ih]

/-- The message bytes from 'off' on are the records' bytes, as far as the message goes. -/
def At (l : List Int) (off : Nat) (s : List Int) : Prop := ∀ j, j < s.length → off + j < l.length → l.getD (off + j) 0 = s.getD j 0

theorem At.left {l s t : List Int} {off : Nat} (h : At l off (s ++ t)) : At l off s := by
  intro j hj hl
  rw [h j (by simp; omega) hl]
  simp [List.getD_eq_getElem?_getD, List.getElem?_append_left hj]

theorem At.right {l s t : List Int} {off : Nat} (h : At l off (s ++ t)) : At l (off + s.length) t := by
  intro j hj hl
  have := h (s.length + j) (by simp; omega) (by omega)
  rw [← Nat.add_assoc] at this
  rw [this, List.getD_eq_getElem?_getD, List.getD_eq_getElem?_getD, List.getElem?_append_right (by omega), Nat.add_sub_cancel_left]

end Go.Proofs.YbulkadjmFmt
