import Derived.Test.YbulkadjmFmtAns
namespace Go.Proofs.YbulkadjmFmt
open Go.RowKit Go.Extern.Stop Go.Stop Go.Extern Go.QuietTail

/-- A slice of bytes that came in: its bytes are l. -/
def Arg (w : World) (ao : Option Addr) (l : List Int) : Prop :=
  (∀ x ∈ l, 0 ≤ x ∧ x ≤ 255) ∧ l.length ≤ 9223372036854775807 ∧ (0 < l.length → ∃ b o, ao = some ⟨b, o, none⟩ ∧ ∀ j, j < l.length → w.cell? ⟨b, o + j, none⟩ = some (.int .u8 (l.getD j 0)))

theorem Arg.later {w w' : World} {ao : Option Addr} {l : List Int} (h : Arg w ao l) (hb : Below w.heap.size w w') : Arg w' ao l := by
  refine ⟨h.1, h.2.1, fun hp => ?_⟩
  obtain ⟨b, o, e, hc⟩ := h.2.2 hp
  exact ⟨b, o, e, fun j hj => (hb.cell (p := ⟨b, o + j, none⟩) (World.block_lt_of_cell? w ⟨b, o + j, none⟩ (hc j hj))).trans (hc j hj)⟩

theorem Arg.src {w : World} {ao : Option Addr} {l : List Int} (h : Arg w ao l) {n : Nat} (hn : l.length = n) : 0 < n → ∃ ad, ao = some ad ∧ ∀ j v, (l.map (Value.int .u8))[j]? = some v → w.cell? (ad.add j) = some v := by
  intro hp
  obtain ⟨b, o, e, hc⟩ := h.2.2 (by omega)
  refine ⟨_, e, fun j v hj => ?_⟩
  have hj' := (List.getElem?_eq_some_iff.1 hj).1
  simp only [List.length_map] at hj'
  rw [Addr.add_lit, hc j hj', ← hj]
  simp [List.getD_eq_getElem?_getD, hj']

theorem Own.row {w : World} {B g cap n : Nat} {l : List Int} (h : Own w B g cap l) (hn : l.length = n) : w.ownsRow B 5 1 (.slice (some ⟨g, 0, none⟩) n cap) n (l.map (Value.int .u8)) := by subst hn; exact h
theorem cell_one (w : World) (s : Nat) (hs : s = w.heap.size) (x : Value) (t : TypeId) : ∀ j u, [x][j]? = some u → (w.alloc (.cells #[x] t)).cell? ((⟨s, 0, none⟩ : Addr).add j) = some u := by
  subst hs
  intro j u hu
  match j, hu with
  | 0, hu => simp at hu; subst hu; simp [Addr.add]

/-- One byte appended. -/
theorem Own.push {w1 w2 : World} {B g n : Nat} {l : List Int} {v : Value} {xs : List Value} {x : Int} (h : w1.ownsRow B 5 1 v n xs) (hne : ¬ v = .slice none 0 0) (hn : n = l.length + 1) (hx : xs = l.map (Value.int .u8) ++ [.int .u8 x]) (hg : w2.grownBy w1 (some g)) :
    ∃ g' cap', v = .slice (some ⟨g', 0, none⟩) n cap' ∧ Own w1 B g' cap' (l ++ [x]) ∧ w2.grownBy w1 (some g) := by
  obtain ⟨g', cap', hv, ho⟩ := own_of h hne (l ++ [x]) (by simp; exact hn) (by simp; exact hx)
  exact ⟨g', cap', by rw [hv]; simp; omega, ho, hg⟩

/-- A record as it came in: its fields, its data's slice. -/
structure RecV where
  r : Rec
  da : Option Addr
  dc : Nat

/-- append(msg, data...), data a slice that came in. -/
theorem wpList_append_bytes {w : World} {ops : Array Oper} {rest : List Oper} {o : Oper} {a : Act} {Q : Exit → Act → World → Prop} (hgd : o.guard = none) (s x : Operand)
    (ho : o.op = .call { callee := .builtin .append, args := #[s, x], argTypes := #[23, 23] }) (B g cap n c : Nat) (ao : Option Addr) (l data : List Int) (hown : Own w B g cap l) (hn : l.length = n)
    (hs : a.eval s = .slice (some ⟨g, 0, none⟩) n cap) (hx : a.eval x = .slice ao data.length c) (hA : Arg w ao data) (hnil : ao = none → c = 0) (hsz : n + data.length ≤ 1000000000) (hB : B ≤ w.heap.size)
    (hK : ∀ g' cap' w', Own w' B g' cap' (l ++ data) → w.grownBy w' (some g) → wpList Ybaf.prog ops Q rest (a.put o.dst (.slice (some ⟨g', 0, none⟩) (n + data.length) cap')) w') : wpList Ybaf.prog ops Q (o :: rest) a w := by
  obtain ⟨i0, hi, hz0, hz1, hz2⟩ := info_parts info5
  cases ao with
  | none =>
    obtain rfl := hnil rfl
    have hd : data = [] := by
      rcases Nat.eq_zero_or_pos data.length with h | h
      · exact List.eq_nil_of_length_eq_zero h
      · obtain ⟨b, o, e, _⟩ := hA.2.2 h
        cases e
    subst hd
    have hrun := run_append_owned_none (P := Ybaf.prog) w B 23 o.type 5 i0 1 Ybaf.underlying23 hi _ n _ (hown.row hn)
    refine wpList_plain hgd fun K hK' => ?_
    unfold Oper.wp
    simp only [List.length_nil] at hx
    simp [execOp, ho, resolve, invoke, builtin, hs, hx, hrun, Result.andThen]
    have := hK g cap w (by simpa using hown) (World.grownBy.refl _ _)
    exact hK' _ _ (by simpa using this)
  | some ad =>
    refine wpList_append_own w hgd s x 23 ho B 5 i0 (.int .u8 0) 1 1 Ybaf.underlying23 hi hz0 hz1 hz2 rfl (by decide) _ n _ hs (hown.row hn) ad data.length c (data.map (Value.int .u8)) hx (by simp) ?_ (ints_oneCell _ _) (by unfold maxLen; omega) (by omega) hB ?_
    · intro j u hj
      have hj' := (List.getElem?_eq_some_iff.1 hj).1
      simp only [List.length_map] at hj'
      obtain ⟨ad', e, h⟩ := hA.src (n := data.length) rfl (by omega)
      cases e
      exact h j u hj
    · intro v' w' h1 h2 h3
      obtain ⟨g', cap', hv, ho'⟩ := own_of h1 (fun e => by have := (h3.1 e).1; cases this) (l ++ data) (by simp; omega) (by simp)
      rw [hv]
      have := hK g' cap' w' ho' h2
      rw [List.length_append, hn]
      exact this

theorem append16_n (B g cap n : Nat) (l : List Int) (x : Int) (w : World) (h : Own w B g cap l) (hn : l.length = n) (hl : n ≤ 1000000000) (hx0 : 0 ≤ x) (hx1 : x ≤ 65535) (hB : B ≤ w.heap.size) :
    Calls Ybaf.prog 5 #[.agg #[], .slice (some ⟨g, 0, none⟩) n cap, .int .u16 x] w fun e w' => ∃ g' cap', e = .returned (.slice (some ⟨g', 0, none⟩) (n + 2) cap') ∧ Own w' B g' cap' (l ++ be16 x) ∧ w.grownBy w' (some g) := by
  subst hn
  refine (append16_any B g cap l x w h hl hx0 hx1 hB).mono ?_
  rintro e w' ⟨g', cap', rfl, h1, h2⟩
  exact ⟨g', cap', by simp, h1, h2⟩

theorem append32_n (B g cap n : Nat) (l : List Int) (x : Int) (w : World) (h : Own w B g cap l) (hn : l.length = n) (hl : n ≤ 1000000000) (hx0 : 0 ≤ x) (hx1 : x ≤ 4294967295) (hB : B ≤ w.heap.size) :
    Calls Ybaf.prog 6 #[.agg #[], .slice (some ⟨g, 0, none⟩) n cap, .int .u32 x] w fun e w' => ∃ g' cap', e = .returned (.slice (some ⟨g', 0, none⟩) (n + 4) cap') ∧ Own w' B g' cap' (l ++ be32 x) ∧ w.grownBy w' (some g) := by
  subst hn
  refine (append32_any B g cap l x w h hl hx0 hx1 hB).mono ?_
  rintro e w' ⟨g', cap', rfl, h1, h2⟩
  exact ⟨g', cap', by simp, h1, h2⟩

/-- The record's box: five cells of type 27; it is no block of bytes. -/
def Box (w : World) (s : Nat) (r : RecV) : Prop := w.heap[s]? = some (.cells #[.bool r.r.ptr, .bool r.r.opt, .int .u16 r.r.cls, .int .u32 r.r.ttl, .slice r.da r.r.data.length r.dc] 27 (0, 0))
theorem Box.kept {w w' : World} {s g B cap : Nat} {r : RecV} {l : List Int} (h : Box w s r) (ho : Own w B g cap l) (hg : w.grownBy w' (some g)) : Box w' s r := by
  have hne : s ≠ g := by
    rintro rfl
    obtain ⟨cur, hc, _⟩ := ho.cur
    rw [h] at hc
    simp at hc
  unfold Box at *
  rw [hg.block s (Array.getElem?_eq_some_iff.1 h).1 (by simpa using hne)]
  exact h
theorem Box.cells {w : World} {s : Nat} {r : RecV} (h : Box w s r) : w.cell? ⟨s, 0, none⟩ = some (.bool r.r.ptr) ∧ w.cell? ⟨s, 1, none⟩ = some (.bool r.r.opt) ∧ w.cell? ⟨s, 2, none⟩ = some (.int .u16 r.r.cls) ∧ w.cell? ⟨s, 3, none⟩ = some (.int .u32 r.r.ttl) ∧
    w.cell? ⟨s, 4, none⟩ = some (.slice r.da r.r.data.length r.dc) := by
  refine ⟨?_, ?_, ?_, ?_, ?_⟩ <;> (rw [cell_of_row w s _ _ 27 (0, 0) h]; rfl)

theorem lay_full (n : Nat) (q : List Int) (h : n = q.length) : lay (List.replicate n 0) 0 (q.take n) = q := by
  subst h
  unfold lay
  simp

def dflt : RecV := ⟨⟨false, false, 0, 0, []⟩, none, 0⟩

theorem cell_from {w w' : World} {a : Addr} {v : Value} (hb : Below w.heap.size w w') (h : w.cell? a = some v) : w'.cell? a = some v := (hb.cell (World.block_lt_of_cell? w a h)).trans h

structure RecsAt (w : World) (b o : Nat) (rs : List RecV) : Prop where
  ptr : ∀ i, i < rs.length → w.cell? ⟨b, o + i * 5, none⟩ = some (.bool (rs.getD i dflt).r.ptr)
  opt : ∀ i, i < rs.length → w.cell? ⟨b, o + i * 5 + 1, none⟩ = some (.bool (rs.getD i dflt).r.opt)
  cls : ∀ i, i < rs.length → w.cell? ⟨b, o + i * 5 + 2, none⟩ = some (.int .u16 (rs.getD i dflt).r.cls)
  ttl : ∀ i, i < rs.length → w.cell? ⟨b, o + i * 5 + 3, none⟩ = some (.int .u32 (rs.getD i dflt).r.ttl)
  data : ∀ i, i < rs.length → w.cell? ⟨b, o + i * 5 + 4, none⟩ = some (.slice (rs.getD i dflt).da (rs.getD i dflt).r.data.length (rs.getD i dflt).dc)
  arg : ∀ i, i < rs.length → Arg w (rs.getD i dflt).da (rs.getD i dflt).r.data
  nil : ∀ i, i < rs.length → (rs.getD i dflt).da = none → (rs.getD i dflt).dc = 0
  num : ∀ i, i < rs.length → 0 ≤ (rs.getD i dflt).r.cls ∧ (rs.getD i dflt).r.cls ≤ 65535 ∧ 0 ≤ (rs.getD i dflt).r.ttl ∧ (rs.getD i dflt).r.ttl ≤ 4294967295

/-- A new block of bytes, as a slice to be appended. -/
theorem arg_new (w : World) (s : Nat) (hs : s = w.heap.size) (l : List Int) (h : ∀ x ∈ l, 0 ≤ x ∧ x ≤ 255) (hl : l.length ≤ 100) : Arg (w.alloc (.cells (l.map (Value.int .u8)).toArray 5)) (some ⟨s, 0, none⟩) l := by
  refine ⟨h, by omega, fun _ => ⟨s, 0, rfl, fun j hj => ?_⟩⟩
  subst hs
  rw [cell_of_row _ _ _ _ 5 (0, 0) (heap_alloc_new w _)]
  simp [hj]

theorem drop_rec (rs : List RecV) (x : Nat) (hx : x < rs.length) (R : RecV) (hR : R = rs.getD x dflt) : (rs.drop x).map RecV.r = R.r :: (rs.drop (x + 1)).map RecV.r := by
  subst hR
  rw [List.drop_eq_getElem_cons hx, List.map_cons]
  simp [List.getD_eq_getElem?_getD, hx]
theorem take_rec (rs : List RecV) (x : Nat) (hx : x < rs.length) (R : RecV) (hR : R = rs.getD x dflt) : (rs.take (x + 1)).map RecV.r = (rs.take x).map RecV.r ++ [R.r] := by
  subst hR
  rw [List.take_succ_eq_append_getElem hx, List.map_append]
  simp [List.getD_eq_getElem?_getD, hx]
theorem lx_step {l l' : List Int} {rs : List RecV} {x : Nat} {R : RecV} (LX : l' = l ++ encAll ((rs.take x).map RecV.r)) (hx : x < rs.length) (hR : R = rs.getD x dflt) : l' ++ R.r.enc = l ++ encAll ((rs.take (x + 1)).map RecV.r) := by
  rw [take_rec rs x hx R hR, LX]
  simp [encAll]
theorem tx_hit {kk x ll ll' c : Nat} {a a' : Int} {rs : List RecV} {R : RecV} {T : Nat × Int} (TX : tally kk ((rs.drop x).map RecV.r) x ll c a = T) (hx : x < rs.length) (hR : R = rs.getD x dflt) (hk : kk ≤ x) (ho : R.r.opt = true)
    (hll : ll' = ll + R.r.len) (ha : a' = ((ll + R.r.d + 2 : Nat) : Int)) : tally kk ((rs.drop (x + 1)).map RecV.r) (x + 1) ll' (c + 1) a' = T := by
  rw [drop_rec rs x hx R hR, tally_cons, if_pos ⟨hk, ho⟩] at TX
  subst hll; subst ha
  exact TX
theorem tx_miss {kk x ll ll' c : Nat} {a : Int} {rs : List RecV} {R : RecV} {T : Nat × Int} (TX : tally kk ((rs.drop x).map RecV.r) x ll c a = T) (hx : x < rs.length) (hR : R = rs.getD x dflt) (hk : ¬ (kk ≤ x ∧ R.r.opt = true))
    (hll : ll' = ll + R.r.len) : tally kk ((rs.drop (x + 1)).map RecV.r) (x + 1) ll' c a = T := by
  rw [drop_rec rs x hx R hR, tally_cons, if_neg hk] at TX
  subst hll
  exact TX

theorem Own.src {w : World} {B g cap : Nat} {l : List Int} (h : Own w B g cap l) {n : Nat} : 0 < n → ∃ ad, (some ⟨g, 0, none⟩ : Option Addr) = some ad ∧ ∀ j v, (l.map (Value.int .u8))[j]? = some v → w.cell? (ad.add j) = some v := by
  intro _
  refine ⟨_, rfl, fun j v hj => ?_⟩
  have hj' := (List.getElem?_eq_some_iff.1 hj).1
  simp only [List.length_map] at hj'
  rw [Addr.add_lit, Nat.zero_add, h.cell j hj', ← hj]
  simp [List.getD_eq_getElem?_getD, hj']

theorem fin_hit {kk j ll an : Nat} {rs : List Rec} {Y : List Int} (T : tally kk rs 0 (12 + j) 0 (-1) = (1, (an : Int))) (hlen : 12 + j + lenAll rs = ll) : fin16 Y (scan kk ll rs 0 (12 + j) none) = put16 Y an 1232 := by
  rw [scan_whole kk rs ll 0 (12 + j) (-1) (by omega), T]
  simp [fin16]
  congr 1
theorem fin_miss {kk j ll c L D : Nat} {a : Int} {rs : List Rec} {Y : List Int} (T : tally kk rs 0 (12 + j) 0 (-1) = (c, a)) (hlen : 12 + j + lenAll rs = ll) (hL : L + D = ll) (h : ¬ (D = 0 ∧ c = 1)) : fin16 Y (scan kk L rs 0 (12 + j) none) = Y := by
  by_cases hD : D = 0
  · rw [scan_whole kk rs L 0 (12 + j) (-1) (by omega), T]
    by_cases h0 : c = 0
    · subst h0; rfl
    · rw [if_neg h0, if_neg (by omega)]; rfl
  · by_cases hr : rs = []
    · subst hr; rfl
    · rw [scan_cut kk rs L 0 (12 + j) none hr (by omega)]; rfl

theorem getD_mem {α : Type} (l : List α) (d : α) (j : Nat) (hj : j < l.length) : l.getD j d ∈ l := by
  rw [List.getD_eq_getElem?_getD, List.getElem?_eq_getElem hj]
  exact List.getElem_mem hj

theorem recs_ok {w : World} {ra : Option Addr} {rs : List RecV} (hr : 0 < rs.length → ∃ b o, ra = some ⟨b, o, none⟩ ∧ RecsAt w b o rs) (hd : ∀ j, j < rs.length → (rs.getD j dflt).r.data.length ≤ 300) : ∀ r ∈ rs.map RecV.r, r.Ok := by
  intro r h
  obtain ⟨v, hv, rfl⟩ := List.mem_map.1 h
  obtain ⟨i, hi, he⟩ := List.getElem_of_mem hv
  obtain ⟨b, o, _, R⟩ := hr (by omega)
  have e : rs.getD i dflt = v := by rw [List.getD_eq_getElem?_getD, List.getElem?_eq_getElem hi]; exact he
  have h1 := R.num i hi
  have h2 := R.arg i hi
  have h3 := hd i hi
  rw [e] at h1 h2 h3
  exact ⟨h1.1, h1.2.1, h1.2.2.1, h1.2.2.2, h3, h2.1⟩

/-- Readdress at the answer that the law has built. -/
theorem readdress_law (F : Interp) (B B' g cap gs gq qcap kk n L : Nat) (Z q aq : List Int) (id hid flags qd : Int) (rs : List Rec) (w : World) (hF : F.answers w.tape) (h : Own w B g cap Z) (hq : Own w B' gq qcap q) (hgq : gq ≠ g) (hgs : gs ≠ g)
    (k0 : w.cell? ⟨gs, 0, none⟩ = some (.int .u16 id)) (k3 : w.cell? ⟨gs, 3, none⟩ = some (.slice (some ⟨gq, 0, none⟩) q.length qcap)) (hid0 : 0 ≤ id) (hid1 : id ≤ 65535) (hq300 : q.length ≤ 300)
    (hZ : Z = (hdr hid flags qd kk ((n : Int) - (kk : Int)) ++ area aq q.length ++ encAll rs).take L) (hL12 : 12 ≤ L) (hL : L ≤ 12 + q.length + lenAll rs) (hL6 : L ≤ 1000000)
    (hok : ∀ r ∈ rs, r.Ok) (hn : rs.length = n) (hkk : kk ≤ n) (hn300 : n ≤ 300) :
    Calls Ybaf.prog 7 #[.pointer (some ⟨gs, 0, none⟩), .slice (some ⟨g, 0, none⟩) L cap] w fun e w' => e = .returned (.tuple #[]) ∧ Own w' B g cap (fin16 (lay (put16 Z 0 id) 12 (q.take (L - 12))) (scan kk L rs 0 (12 + q.length) none)) ∧ w.grownBy w' (some g) := by
  have hZL : Z.length = L := by
    rw [hZ, List.length_take, List.length_append, List.length_append, hdr_length, area_length, encAll_length]
    omega
  have A := answer_at (hdr hid flags qd kk ((n : Int) - (kk : Int))) (area aq q.length) (encAll rs) q L id (hdr_length _ _ _ _ _) (area_length _ _) hL12 (by rw [encAll_length]; exact hL)
  rw [← hZ] at A
  have e : ((n : Int) - (kk : Int)) = ((n - kk : Nat) : Int) := by omega
  have K := readdress_any F B B' g cap gs gq qcap kk n Z q id rs w hF h hq hgq hgs k0 k3 hid0 hid1 (by omega) hq300 (by omega) _ rfl hok hn hkk hn300
  rw [hZL] at K
  exact K A.1 (A.2 6 (by omega) (by omega)) (A.2 7 (by omega) (by omega)) (A.2 8 (by omega) (by omega)) (A.2 9 (by omega) (by omega)) (by rw [← e]; exact A.2 10 (by omega) (by omega)) (by rw [← e]; exact A.2 11 (by omega) (by omega))

/-- What stands while one record is appended. -/
structure St (w0 : World) (B ql : Nat) (q : List Int) (s : Nat) (R : RecV) (w : World) (g cap : Nat) (l : List Int) : Prop where
  own : Own w B g cap l
  qq : Own w w0.heap.size w0.heap.size ql q
  below : Below w0.heap.size w0 w
  size : B ≤ w.heap.size
  arg : Arg w0 R.da R.r.data
  box : Box w s R
  hB : w0.heap.size < B

theorem St.step {w0 : World} {B ql : Nat} {q : List Int} {s : Nat} {R : RecV} {w w' : World} {g cap g' cap' : Nat} {l l' : List Int} (h : St w0 B ql q s R w g cap l) (hg : w.grownBy w' (some g)) (ho : Own w' B g' cap' l') : St w0 B ql q s R w' g' cap' l' := by
  have h1 := h.own.lt.1
  have h2 := h.hB
  exact ⟨ho, h.qq.kept hg (by simp; omega), h.below.grown hg (Nat.le_trans (Nat.le_of_lt h.hB) h.size) (fun k hk => by cases hk; omega), Nat.le_trans h.size hg.size, h.arg, h.box.kept h.own hg, h.hB⟩
theorem St.data {w0 : World} {B ql : Nat} {q : List Int} {s : Nat} {R : RecV} {w : World} {g cap : Nat} {l : List Int} (h : St w0 B ql q s R w g cap l) : Arg w R.da R.r.data := h.arg.later h.below

theorem rec_push (l : List Int) (r : Rec) (nm : List Int) (ty : Int) (dl : Nat) (h1 : r.name = nm) (h2 : r.typ = ty) (h3 : dl = r.data.length) : (((((l ++ nm) ++ be16 ty) ++ be16 r.cls) ++ be32 r.ttl) ++ be16 (dl : Int)) ++ r.data = l ++ r.enc := by
  subst h1; subst h2; subst h3
  unfold Rec.enc
  simp only [List.append_assoc]

end Go.Proofs.YbulkadjmFmt
