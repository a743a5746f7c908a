import Derived.Test.YbulkadjmFmtRead
import Derived.Test.YbulkadjmFmtPlain
namespace Go.Proofs.YbulkadjmFmt
open Go.RowKit Go.Extern.Stop Go.Stop Go.Extern Go.QuietTail

/-- readRecord at a record of the list that the message does not hold whole: an error. -/
theorem rr_bad (F : Interp) (B g cap off : Nat) (l : List Int) (r : Rec) (w : World) (hF : F.answers w.tape) (h : Own w B g cap l) (hr : r.Ok) (hat : At l off r.enc) (hL : l.length < off + r.len) (hs : off ≤ 1000000000) :
    Calls Ybaf.prog 10 #[.slice (some ⟨g, 0, none⟩) l.length cap, .int .i64 off] w fun e w' => (∃ b, e = .returned (.tuple #[zeroRec, .iface 56 (.pointer (some ⟨b, 0, none⟩))])) ∧ Below w.heap.size w w' := by
  have hlt := h.lt.2
  have hcap := h.cap.1
  have hlen := r.enc_length
  have hdat := hr.short
  have hd := r.d_cases
  unfold Rec.len at hL hlen
  by_cases h1 : l.length ≤ off
  · exact rr_end F g _ cap off w hF h1
  · have c0 := h.cell off (by omega)
    have e0 : l.getD off 0 = r.enc.getD 0 0 := hat 0 (by omega) (by omega)
    have hnm : nameAt (l.getD off 0) r.d := by
      rw [e0]
      rcases r.enc_head with ⟨_, a, b⟩ | ⟨_, a, b⟩
      · exact Or.inl ⟨a, b⟩
      · exact Or.inr ⟨a, b⟩
    by_cases h2 : l.length < off + r.d + 10
    · exact rr_short F g _ cap off r.d (off + r.d) _ w hF hlt (by omega) hs c0 hnm rfl h2 (by omega)
    · obtain ⟨f0, f1, f2, f3, f4, f5, f6, f7, f8, f9⟩ := r.enc_fix
      have c8 := h.cell (off + r.d + 8) (by omega)
      have c9 := h.cell (off + r.d + 8 + 1) (by omega)
      have e8 := hat (r.d + 8) (by omega) (by omega)
      have e9 := hat (r.d + 9) (by omega) (by omega)
      rw [← Nat.add_assoc, f8] at e8
      rw [show off + (r.d + 9) = off + r.d + 8 + 1 by omega, f9] at e9
      rw [e8] at c8
      rw [e9] at c9
      exact rr_data F g _ cap off r.d (off + r.d) _ _ _ w hF hlt (by omega) hs c0 hnm rfl (by omega) (by omega) hcap c8 c9 (by omega) (by omega) (by omega)

/-- readRecord at a record that the message holds. -/
theorem rr_good (B g cap off : Nat) (l : List Int) (r : Rec) (w : World) (h : Own w B g cap l) (hr : r.Ok) (hat : At l off r.enc) (hL : off + r.len ≤ l.length) (hs : off ≤ 1000000000) :
    Calls Ybaf.prog 10 #[.slice (some ⟨g, 0, none⟩) l.length cap, .int .i64 off] w fun e w' => (∃ c y, e = .returned (.tuple #[.agg #[.int .u16 r.typ, .int .u16 c, .int .u32 y, .int .i64 ((off + r.d + 10 : Nat) : Int), .int .i64 ((off + r.len : Nat) : Int)], .nilIface])) ∧ Below w.heap.size w w' := by
  have hlt := h.lt.2
  have hcap := h.cap.1
  have hlen := r.enc_length
  have hdat := hr.short
  have hd := r.d_cases
  have hlen2 : r.len = r.d + 10 + r.data.length := rfl
  have hc0 := hr.cls0
  have hc1 := hr.cls1
  have ht0 := hr.ttl0
  have ht1 := hr.ttl1
  have hty : r.typ = 1 ∨ r.typ = 41 := by unfold Rec.typ; split <;> simp
  have c0 := h.cell off (by omega)
  have e0 : l.getD off 0 = r.enc.getD 0 0 := hat 0 (by omega) (by omega)
  have hnm : nameAt (l.getD off 0) r.d := by
    rw [e0]
    rcases r.enc_head with ⟨_, a, b⟩ | ⟨_, a, b⟩
    · exact Or.inl ⟨a, b⟩
    · exact Or.inr ⟨a, b⟩
  obtain ⟨f0, f1, f2, f3, f4, f5, f6, f7, f8, f9⟩ := r.enc_fix
  have C : ∀ j v, r.enc.getD (r.d + j) 0 = v → j < 10 → w.cell? ⟨g, off + r.d + j, none⟩ = some (.int .u8 v) := fun j v hv hj => by
    rw [h.cell (off + r.d + j) (by omega), ← hv, Nat.add_assoc, hat (r.d + j) (by omega) (by omega)]
  have k := rr_ok g l.length cap off r.d (off + r.d) _ _ _ _ _ _ _ _ _ _ _ w hlt (by omega) hs c0 hnm rfl (by omega) (by omega) hcap
    (C 0 _ f0 (by omega)) (C 1 _ f1 (by omega)) (C 2 _ f2 (by omega)) (C 3 _ f3 (by omega)) (C 4 _ f4 (by omega)) (C 5 _ f5 (by omega)) (C 6 _ f6 (by omega)) (C 7 _ f7 (by omega)) (C 8 _ f8 (by omega)) (C 9 _ f9 (by omega))
    (by omega) (by omega) (by omega) (by omega) (by omega) (by omega) (by omega) (by omega) (by omega) (by omega) (by omega)
  refine k.mono ?_
  rintro e w' ⟨⟨c, y, rfl⟩, hb⟩
  refine ⟨⟨c, y, ?_⟩, hb⟩
  rw [show (r.typ / 256 * 256 + r.typ % 256) = r.typ by omega, show (((off + r.d : Nat) : Int) + 10 + ((r.data.length : Int) / 256 * 256 + (r.data.length : Int) % 256)) = ((off + r.len : Nat) : Int) by omega, show (((off + r.d : Nat) : Int) + 10) = ((off + r.d + 10 : Nat) : Int) by omega]

theorem uint16_val (v : Int) (W : World) (g o n c : Nat) (b0 b1 : Int) (w : World) (hx : Below W.heap.size W w) (hn : 2 ≤ n) (h0 : W.cell? ⟨g, o, none⟩ = some (.int .u8 b0)) (h1 : W.cell? ⟨g, o + 1, none⟩ = some (.int .u8 b1))
    (k0 : 0 ≤ b0 ∧ b0 ≤ 255) (k1 : 0 ≤ b1 ∧ b1 ≤ 255) (hg : g < W.heap.size) (hv : b0 * 256 + b1 = v) :
    Calls Ybaf.prog 9 #[.agg #[], .slice (some ⟨g, o, none⟩) n c] w fun e w' => e = .returned (.int .u16 v) ∧ Below W.heap.size W w' := by
  subst hv
  exact uint16_at W g o n c b0 b1 w hx hn h0 h1 k0 k1 hg

/-- What findOPT hands back. -/
def OptRet (res : Option (Option Nat)) (e : Ending) : Prop :=
  match res with
  | none => ∃ b, e = .returned (.tuple #[zeroRec, .bool false, .iface 56 (.pointer (some ⟨b, 0, none⟩))])
  | some none => e = .returned (.tuple #[zeroRec, .bool false, .nilIface])
  | some (some d) => ∃ t c y x, e = .returned (.tuple #[.agg #[.int .u16 t, .int .u16 c, .int .u32 y, .int .i64 ((d : Nat) : Int), .int .i64 x], .bool true, .nilIface])

/-- The cells of the named result 'opt' while the records are read. -/
def OptCells (w : World) (s : Nat) (st : Option Nat) : Prop := ∃ t c y d x : Int, (st = none → t = 0 ∧ c = 0 ∧ y = 0 ∧ d = 0 ∧ x = 0) ∧ (∀ k, st = some k → d = (k : Int)) ∧
  w.cell? ⟨s, 0, none⟩ = some (.int .u16 t) ∧ w.cell? ⟨s, 1, none⟩ = some (.int .u16 c) ∧ w.cell? ⟨s, 2, none⟩ = some (.int .u32 y) ∧ w.cell? ⟨s, 3, none⟩ = some (.int .i64 d) ∧ w.cell? ⟨s, 4, none⟩ = some (.int .i64 x) ∧
  (∀ o, w.frozen? ⟨s, o, none⟩ = false) ∧ s < w.heap.size

theorem OptCells.put {w : World} {s : Nat} {v0 v1 v2 v3 v4 : Value} (c0 : w.cell? ⟨s, 0, none⟩ = some v0) (c1 : w.cell? ⟨s, 1, none⟩ = some v1) (c2 : w.cell? ⟨s, 2, none⟩ = some v2) (c3 : w.cell? ⟨s, 3, none⟩ = some v3) (c4 : w.cell? ⟨s, 4, none⟩ = some v4)
    (cf : ∀ o, w.frozen? ⟨s, o, none⟩ = false) (cz : s < w.heap.size) (t c y x : Int) (d : Nat) (cs : Array Value) (T : TypeId) :
    OptCells ((((((w.setCell ⟨s, 0, none⟩ (.int .u16 t)).setCell ⟨s, 1, none⟩ (.int .u16 c)).setCell ⟨s, 2, none⟩ (.int .u32 y)).setCell ⟨s, 3, none⟩ (.int .i64 (d : Int))).setCell ⟨s, 4, none⟩ (.int .i64 x)).alloc (.cells cs T)) s (some d) := by
  have hne : ∀ o, (⟨s, o, none⟩ : Addr).block ≠ (((((w.setCell ⟨s, 0, none⟩ (.int .u16 t)).setCell ⟨s, 1, none⟩ (.int .u16 c)).setCell ⟨s, 2, none⟩ (.int .u32 y)).setCell ⟨s, 3, none⟩ (.int .i64 (d : Int))).setCell ⟨s, 4, none⟩ (.int .i64 x)).heap.size := fun o => by simp; omega
  refine ⟨t, c, y, d, x, fun h => (by cases h), (fun k hk => by cases hk; rfl), ?_, ?_, ?_, ?_, ?_, ?_, ?_⟩
  · rw [World.cell?_alloc_old _ _ _ (hne _)]; simp [go_sem, c0]
  · rw [World.cell?_alloc_old _ _ _ (hne _)]; simp [go_sem, c1]
  · rw [World.cell?_alloc_old _ _ _ (hne _)]; simp [go_sem, c2]
  · rw [World.cell?_alloc_old _ _ _ (hne _)]; simp [go_sem, c3]
  · rw [World.cell?_alloc_old _ _ _ (hne _)]; simp [go_sem, c4]
  · intro o; rw [World.frozen?_alloc_old _ _ _ (hne _)]; simp [go_sem, cf]
  · simp; omega

theorem OptCells.keep {w : World} {s : Nat} {t c y d x : Int} {st : Option Nat} (h : (st = none → t = 0 ∧ c = 0 ∧ y = 0 ∧ d = 0 ∧ x = 0) ∧ (∀ k, st = some k → d = (k : Int)))
    (c0 : w.cell? ⟨s, 0, none⟩ = some (.int .u16 t)) (c1 : w.cell? ⟨s, 1, none⟩ = some (.int .u16 c)) (c2 : w.cell? ⟨s, 2, none⟩ = some (.int .u32 y)) (c3 : w.cell? ⟨s, 3, none⟩ = some (.int .i64 d)) (c4 : w.cell? ⟨s, 4, none⟩ = some (.int .i64 x))
    (cf : ∀ o, w.frozen? ⟨s, o, none⟩ = false) (cz : s < w.heap.size) (cs : Array Value) (T : TypeId) : OptCells (w.alloc (.cells cs T)) s st := by
  have hne : ∀ o, (⟨s, o, none⟩ : Addr).block ≠ w.heap.size := fun o => by simp; omega
  refine ⟨t, c, y, d, x, h.1, h.2, ?_, ?_, ?_, ?_, ?_, ?_, ?_⟩
  · rw [World.cell?_alloc_old _ _ _ (hne _)]; exact c0
  · rw [World.cell?_alloc_old _ _ _ (hne _)]; exact c1
  · rw [World.cell?_alloc_old _ _ _ (hne _)]; exact c2
  · rw [World.cell?_alloc_old _ _ _ (hne _)]; exact c3
  · rw [World.cell?_alloc_old _ _ _ (hne _)]; exact c4
  · intro o; rw [World.frozen?_alloc_old _ _ _ (hne _)]; exact cf o
  · simp; omega

/-- A record that cannot be read; one that can (under names, so that the walk leaves them alone). -/
def Bad (g len cap off : Nat) (w : World) : Prop := Calls Ybaf.prog 10 #[.slice (some ⟨g, 0, none⟩) len cap, .int .i64 off] w fun e w' => (∃ b, e = .returned (.tuple #[zeroRec, .iface 56 (.pointer (some ⟨b, 0, none⟩))])) ∧ Below w.heap.size w w'
theorem Bad.use {g len cap off : Nat} {w : World} (h : Bad g len cap off w) : Calls Ybaf.prog 10 #[.slice (some ⟨g, 0, none⟩) len cap, .int .i64 off] w fun e w' => (∃ b, e = .returned (.tuple #[zeroRec, .iface 56 (.pointer (some ⟨b, 0, none⟩))])) ∧ Below w.heap.size w w' := h
def Good (g len cap off : Nat) (w : World) (t : Int) (d x : Nat) : Prop := Calls Ybaf.prog 10 #[.slice (some ⟨g, 0, none⟩) len cap, .int .i64 off] w fun e w' => (∃ c y, e = .returned (.tuple #[.agg #[.int .u16 t, .int .u16 c, .int .u32 y, .int .i64 (d : Int), .int .i64 (x : Int)], .nilIface])) ∧ Below w.heap.size w w'
theorem Good.use {g len cap off : Nat} {w : World} {t : Int} {d x : Nat} (h : Good g len cap off w t d x) : Calls Ybaf.prog 10 #[.slice (some ⟨g, 0, none⟩) len cap, .int .i64 off] w fun e w' => (∃ c y, e = .returned (.tuple #[.agg #[.int .u16 t, .int .u16 c, .int .u32 y, .int .i64 (d : Int), .int .i64 (x : Int)], .nilIface])) ∧ Below w.heap.size w w' := h

set_option maxHeartbeats 1000000 in
theorem findOPT_any (F : Interp) (B g cap off kk n : Nat) (l : List Int) (rs : List Rec) (w : World) (hF : F.answers w.tape) (h : Own w B g cap l) (hok : ∀ r ∈ rs, r.Ok) (hn : rs.length = n) (hkk : kk ≤ n) (hn300 : n ≤ 300)
    (hat : At l off (encAll rs)) (hoff : off ≤ 312) (hl12 : 12 ≤ l.length) (a6 : l.getD 6 0 = (kk : Int) / 256) (a7 : l.getD 7 0 = (kk : Int) % 256) (a8 : l.getD 8 0 = 0) (a9 : l.getD 9 0 = 0)
    (a10 : l.getD 10 0 = ((n - kk : Nat) : Int) / 256) (a11 : l.getD 11 0 = ((n - kk : Nat) : Int) % 256) :
    Calls Ybaf.prog 8 #[.slice (some ⟨g, 0, none⟩) l.length cap, .int .i64 off] w fun e w' => OptRet (scan kk l.length rs 0 off none) e ∧ Below w.heap.size w w' := by
  have hlt := h.lt.2
  have hcap := h.cap
  unfold maxLen at hcap
  have c6 := h.cell 6 (by omega)
  have c7 := h.cell 7 (by omega)
  have c8 := h.cell 8 (by omega)
  have c9 := h.cell 9 (by omega)
  have c10 := h.cell 10 (by omega)
  have c11 := h.cell 11 (by omega)
  rw [a6] at c6; rw [a7] at c7; rw [a8] at c8; rw [a9] at c9; rw [a10] at c10; rw [a11] at c11
  have hB1 := (Below.refl w.heap.size w).alloc (Nat.le_refl _) (.cells #[.int .u16 0, .int .u16 0, .int .u32 0, .int .i64 0, .int .i64 0] 40)
  have hBx := (Below.refl (w.heap.size + 1) (w.alloc (.cells #[.int .u16 0, .int .u16 0, .int .u32 0, .int .i64 0, .int .i64 0] 40)))
  obtain ⟨d0, d1, d2, d3, d4, df, dz⟩ := box5 hBx
  have old : ∀ o j (v : Value), w.cell? ⟨g, j, none⟩ = some v → (w.alloc o).cell? ⟨g, j, none⟩ = some v := fun o j v h => by rw [World.cell?_alloc_old _ _ _ (by simp; omega)]; exact h
  have r6 := old (.cells #[.int .u16 0, .int .u16 0, .int .u32 0, .int .i64 0, .int .i64 0] 40) _ _ c6
  have r7 := old (.cells #[.int .u16 0, .int .u16 0, .int .u32 0, .int .i64 0, .int .i64 0] 40) _ _ c7
  have r8 := old (.cells #[.int .u16 0, .int .u16 0, .int .u32 0, .int .i64 0, .int .i64 0] 40) _ _ c8
  have r9 := old (.cells #[.int .u16 0, .int .u16 0, .int .u32 0, .int .i64 0, .int .i64 0] 40) _ _ c9
  have r10 := old (.cells #[.int .u16 0, .int .u16 0, .int .u32 0, .int .i64 0, .int .i64 0] 40) _ _ c10
  have r11 := old (.cells #[.int .u16 0, .int .u16 0, .int .u32 0, .int .i64 0, .int .i64 0] 40) _ _ c11
  have hgW : g < (w.alloc (.cells #[.int .u16 0, .int .u16 0, .int .u32 0, .int .i64 0, .int .i64 0] 40)).heap.size := by simp; omega
  have H : Hid (Own w B g cap l) := h
  have HN : Hid (rs.length = n) := hn
  obtain ⟨len, hlen⟩ : ∃ len, len = l.length := ⟨_, rfl⟩
  have HL : Hid (len = l.length) := hlen
  rw [← hlen] at hl12 hcap ⊢
  clear c6 c7 c8 c9 c10 c11 h old hBx hn hlen a6 a7 a8 a9 a10 a11
  go_enter Ybaf.func8, Ybaf.ntmps8
  go_wp2
  generalize hW : (w.alloc (.cells #[.int .u16 0, .int .u16 0, .int .u32 0, .int .i64 0, .int .i64 0] 40)) = W at *
  have HT : Hid (W.tape = w.tape) := by rw [← hW]; exact rfl
  have HW : Hid (Below w.heap.size w W) := hB1
  clear hW hB1
  have m6 : ¬ cap = 6 := by omega
  have m8 : ¬ cap = 8 := by omega
  have m10 : ¬ cap = 10 := by omega
  have hN : Nonempty (Later W) := ⟨⟨W, Below.refl _ _⟩⟩
  refine wp_region_later (by kernel_rfl) (by kernel_rfl) ?_
  iterate 3 (go_big_quiet_step (fail))
  go_big_quiet_want
  go_big_quiet_op
  refine ⟨_, fun p => calls_later (uint16_val (kk : Int) W g _ _ _ _ _ _ p.h (by omega) r6 r7 (by omega) (by omega) hgW (by omega)), ?_⟩
  go_big_quiet_on
  iterate 4 (go_big_quiet_step (fail))
  go_big_quiet_want
  go_big_quiet_op
  refine ⟨_, fun p => calls_later (uint16_val 0 W g _ _ _ _ _ _ p.h (by omega) r8 r9 (by omega) (by omega) hgW (by omega)), ?_⟩
  go_big_quiet_on
  iterate 3 (go_big_quiet_step (fail))
  refine wpQuiet_nil ?_
  intro W1 hW1
  obtain ⟨⟨w6, hb1⟩, rfl⟩ := hW1
  go_wp2
  refine wp_region_later (by kernel_rfl) (by kernel_rfl) ?_
  have R10 : W1.cell? ⟨g, 10, none⟩ = some (.int .u8 (((n - kk : Nat) : Int) / 256)) := (hb1.cell (p := ⟨g, 10, none⟩) hgW).trans r10
  have R11 : W1.cell? ⟨g, 10 + 1, none⟩ = some (.int .u8 (((n - kk : Nat) : Int) % 256)) := (hb1.cell (p := ⟨g, 11, none⟩) hgW).trans r11
  have hg1 : g < W1.heap.size := Nat.lt_of_lt_of_le hgW hb1.size
  have hN1 : Nonempty (Later W1) := ⟨⟨W1, Below.refl _ _⟩⟩
  iterate 3 (go_big_quiet_step (fail))
  go_big_quiet_want
  go_big_quiet_op
  refine ⟨_, fun p => calls_later (uint16_val ((n - kk : Nat) : Int) W1 g _ _ _ _ _ _ p.h (by omega) R10 R11 (by omega) (by omega) hg1 (by omega)), ?_⟩
  go_big_quiet_on
  iterate 2 (go_big_quiet_step (fail))
  refine wpQuiet_nil ?_
  intro W2 hW2
  obtain ⟨⟨w6, hb2⟩, rfl⟩ := hW2
  obtain ⟨c0, c1, c2, c3, c4, cf, cz⟩ := box5_later hb1 d0 d1 d2 d3 d4 df dz
  obtain ⟨e0, e1, e2, e3, e4, ef, ez⟩ := box5_later hb2 c0 c1 c2 c3 c4 cf cz
  have HB : Hid (Below w.heap.size w W2) := (HW.out.trans (hb1.mono (Nat.le_of_lt dz))).trans (hb2.mono (Nat.le_of_lt cz))
  have HF : Hid (F.answers w.tape) := hF
  have HA : Hid (At l off (encAll rs)) := hat
  have HO : Hid (∀ r ∈ rs, r.Ok) := hok
  clear r6 r7 r8 r9 r10 r11 R10 R11 hN hN1 d0 d1 d2 d3 d4 df c0 c1 c2 c3 c4 cf hgW hg1 m6 m8 m10 dz cz hb1 hb2 HW HT hF hat hok
  clear W1 W
  have S0 : Hid (OptCells W2 w.heap.size none) := ⟨0, 0, 0, 0, 0, fun _ => ⟨rfl, rfl, rfl, rfl, rfl⟩, (fun k hk => by cases hk), e0, e1, e2, e3, e4, ef, ez⟩
  clear e0 e1 e2 e3 e4 ef ez
  go_wp2
  go_loopw [31, 1, 5] (fun i o ok wr => ∃ (k ofk : Nat) (st : Option Nat), k ≤ n ∧ i = .int .i64 k ∧ o = .int .i64 ofk ∧ ok = .bool st.isSome ∧ Hid (OptCells wr w.heap.size st) ∧ Hid (Below w.heap.size w wr) ∧
      Hid (scan kk len (rs.drop k) k ofk st = scan kk len rs 0 off none) ∧ Hid (At l ofk (encAll (rs.drop k))) ∧ ofk ≤ 312 + 312 * k) (fun i _ _ _ => n - (intOf i).toNat)
  case atStart => exact ⟨0, off, none, Nat.zero_le _, rfl, rfl, rfl, S0, HB, rfl, HA, by omega⟩
  case round =>
    obtain ⟨k, ofk, st, hk, rfl, rfl, rfl, S, HBr, HSc, HAr, hofk⟩ := hrel
    clear S0 HB
    by_cases hlt : k < n
    · obtain ⟨r, rs', hd⟩ : ∃ r rs', rs.drop k = r :: rs' := by
        have := HN.out
        exact ⟨_, _, List.drop_eq_getElem_cons (by omega)⟩
      have hr : r.Ok := HO.out r (List.mem_of_mem_drop (by rw [hd]; simp))
      have hd1 : rs.drop (k + 1) = rs' := by rw [← List.drop_drop, hd]; simp
      have at1 : At l ofk (r.enc ++ encAll rs') := by have := HAr.out; rw [hd] at this; simpa [encAll] using this
      have hOr : Own wr B g cap l := H.out.kept (grownBy_of_below HBr.out none) (by simp)
      have hFr : F.answers wr.tape := by rw [HBr.out.tape]; exact HF.out
      have hrl : r.len ≤ 312 := by have := hr.short; have := r.d_cases; unfold Rec.len; omega
      have hlt' : (k : Int) < (kk : Int) + ((n - kk : Nat) : Int) := by omega
      have sc := HSc.out
      rw [hd, scan_cons] at sc
      by_cases hbad : len < ofk + r.len
      · rw [if_pos hbad] at sc
        have C : Bad g len cap ofk wr := by
          have C := rr_bad F B g cap ofk l r wr hFr hOr hr at1.left (by rw [← HL.out]; exact hbad) (by omega)
          rw [← HL.out] at C
          exact C
        have SC : Hid (scan kk len rs 0 off none = none) := sc.symm
        obtain ⟨t, c, y, d, x, s1, s2, s3, s4, s5, s6, s7, sf, sz⟩ := S.out
        clear sc HSc HAr at1 hOr hFr s1 s2 hd hd1 S
        go_wp2_with fail
        refine C.use.mono ?_
        rintro e w1 ⟨⟨b, rfl⟩, hb⟩
        obtain ⟨c0, c1, c2, c3, c4, cf, cz⟩ := box5_later hb s3 s4 s5 s6 s7 sf sz
        clear C s3 s4 s5 s6 s7 sf
        unfold zeroRec
        go_wp2
        refine bodyPost_ret (v := .tuple #[zeroRec, .bool false, .iface 56 (.pointer (some ⟨b, 0, none⟩))]) (by simp [results, Ybaf.results8, go_sem, zeroRec, c0, c1, c2, c3, c4, cz]) rfl ⟨by rw [SC.out]; exact ⟨b, rfl⟩, ?_⟩
        have h1 : Below w.heap.size w w1 := HBr.out.trans (hb.mono HBr.out.size)
        refine (((((h1.setCell (by simp) _).setCell (by simp) _).setCell (by simp) _).setCell (by simp) _).setCell (by simp) _).alloc ?_ _
        simp
        exact Nat.le_of_lt cz
      · rw [if_neg hbad] at sc
        have C : ∀ t, r.typ = t → Good g len cap ofk wr t (ofk + r.d + 10) (ofk + r.len) := by
          rintro t rfl
          have C := rr_good B g cap ofk l r wr hOr hr at1.left (by rw [← HL.out]; omega) (by omega)
          rw [← HL.out] at C
          exact C
        obtain ⟨t, c, y, d, x, s1, s2, s3, s4, s5, s6, s7, sf, sz⟩ := S.out
        have HA1 : Hid (At l (ofk + r.len) (encAll (rs.drop (k + 1)))) := by
          have := at1.right
          rw [r.enc_length] at this
          rw [hd1]
          exact this
        rw [← hd1] at sc
        have hdd := r.d_cases
        obtain ⟨of1, hof1⟩ : ∃ of1, of1 = ofk + r.len := ⟨_, rfl⟩
        obtain ⟨dd, hdd1⟩ : ∃ dd, dd = ofk + r.d + 10 := ⟨_, rfl⟩
        rw [← hof1] at sc HA1 C
        rw [← hdd1] at sc C
        have hof2 : of1 ≤ 312 + 312 * (k + 1) := by omega
        have hdd2 : dd ≤ 1000000 := by omega
        have hb7 : of1 ≤ 1000000 := Nat.le_trans hof2 (by omega)
        clear hOr HSc HAr at1 hd hd1 hof1 hdd1 hrl hbad hr
        by_cases hopt : kk ≤ k ∧ r.opt = true
        · rw [if_pos hopt] at sc
          have hty : r.typ = 41 := by unfold Rec.typ; rw [if_pos hopt.2]
          have C2 := C 41 hty
          clear hty
          have hkk1 : (kk : Int) ≤ (k : Int) := by omega
          clear hopt C
          cases st with
          | none =>
            have SC : Hid (scan kk len (List.drop (k + 1) rs) (k + 1) of1 (some dd) = scan kk len rs 0 off none) := sc
            clear sc s1 s2
            go_wp2_with fail
            refine C2.use.mono ?_
            rintro e w1 ⟨⟨c', y', rfl⟩, hb⟩
            obtain ⟨c0, c1, c2, c3, c4, cf, cz⟩ := box5_later hb s3 s4 s5 s6 s7 sf sz
            clear C2 s3 s4 s5 s6 s7 sf
            go_wp2
            go_roundw
            case rel =>
              refine ⟨k + 1, of1, some dd, by omega, by go_num, rfl, rfl, ?_, ?_, SC, HA1, hof2⟩
              · exact OptCells.put c0 c1 c2 c3 c4 cf cz _ _ _ _ _ _ _
              · have h1 : Below w.heap.size w w1 := HBr.out.trans (hb.mono HBr.out.size)
                refine (((((h1.setCell (by simp) _).setCell (by simp) _).setCell (by simp) _).setCell (by simp) _).setCell (by simp) _).alloc ?_ _
                simp
                exact Nat.le_of_lt cz
            case measure => simp [intOf]; omega
          | some d0 =>
            have SC : Hid (scan kk len rs 0 off none = none) := sc.symm
            clear sc s1 s2
            go_wp2_with fail
            refine C2.use.mono ?_
            rintro e w1 ⟨⟨c', y', rfl⟩, hb⟩
            obtain ⟨c0, c1, c2, c3, c4, cf, cz⟩ := box5_later hb s3 s4 s5 s6 s7 sf sz
            clear C2 s3 s4 s5 s6 s7 sf
            have hF1 : F.answers w1.tape := by rw [hb.tape]; exact hFr
            go_wp2_with fail
            refine (malformed_any F _ _ _ (by exact hF1)).mono ?_
            rintro e w2 ⟨⟨b, rfl⟩, hb2⟩
            rw [World.size_alloc] at hb2
            have hb3 : Below w1.heap.size w1 w2 := ((Below.refl w1.heap.size w1).alloc (Nat.le_refl _) _).trans (hb2.mono (by omega))
            obtain ⟨g0, g1, g2, g3, g4, gf, gz⟩ := box5_later hb3 c0 c1 c2 c3 c4 cf cz
            clear c0 c1 c2 c3 c4 cf hb2
            go_wp2
            refine bodyPost_ret (v := .tuple #[zeroRec, .bool false, .iface 56 (.pointer (some ⟨b, 0, none⟩))]) (by simp [results, Ybaf.results8, go_sem, zeroRec, g0, g1, g2, g3, g4]) rfl ⟨by rw [SC.out]; exact ⟨b, rfl⟩, ?_⟩
            have h1 : Below w.heap.size w w2 := (HBr.out.trans (hb.mono HBr.out.size)).trans (hb3.mono (Nat.le_of_lt cz))
            exact ((((h1.setCell (by simp) _).setCell (by simp) _).setCell (by simp) _).setCell (by simp) _).setCell (by simp) _
        · rw [if_neg hopt] at sc
          have SC : Hid (scan kk len (List.drop (k + 1) rs) (k + 1) of1 st = scan kk len rs 0 off none) := sc
          have S1 : Hid ((st = none → t = 0 ∧ c = 0 ∧ y = 0 ∧ d = 0 ∧ x = 0) ∧ (∀ k, st = some k → d = (k : Int))) := ⟨s1, s2⟩
          clear sc s1 s2 S
          cases ho : r.opt with
          | true =>
            have hty : r.typ = 41 := by unfold Rec.typ; rw [if_pos ho]
            have C2 := C 41 hty
            have hkk1 : ¬ ((kk : Int) ≤ (k : Int)) := by rw [ho] at hopt; simp at hopt; omega
            clear hopt C hty ho
            go_wp2_with fail
            refine C2.use.mono ?_
            rintro e w1 ⟨⟨c', y', rfl⟩, hb⟩
            obtain ⟨c0, c1, c2, c3, c4, cf, cz⟩ := box5_later hb s3 s4 s5 s6 s7 sf sz
            clear C2 s3 s4 s5 s6 s7 sf
            go_wp2
            go_roundw
            case rel =>
              have h1 : Below w.heap.size w w1 := HBr.out.trans (hb.mono HBr.out.size)
              exact ⟨k + 1, of1, st, by omega, by go_num, rfl, rfl, OptCells.keep S1.out c0 c1 c2 c3 c4 cf cz _ _, h1.alloc (Nat.le_of_lt cz) _, SC, HA1, hof2⟩
            case measure => simp [intOf]; omega
          | false =>
            have hty : r.typ = 1 := by unfold Rec.typ; rw [if_neg (by rw [ho]; simp)]
            have C2 := C 1 hty
            clear hopt C hty ho
            go_wp2_with fail
            refine C2.use.mono ?_
            rintro e w1 ⟨⟨c', y', rfl⟩, hb⟩
            obtain ⟨c0, c1, c2, c3, c4, cf, cz⟩ := box5_later hb s3 s4 s5 s6 s7 sf sz
            clear C2 s3 s4 s5 s6 s7 sf
            go_wp2
            all_goals
              go_roundw
              case rel =>
                have h1 : Below w.heap.size w w1 := HBr.out.trans (hb.mono HBr.out.size)
                exact ⟨k + 1, of1, st, by omega, by go_num, rfl, rfl, OptCells.keep S1.out c0 c1 c2 c3 c4 cf cz _ _, h1.alloc (Nat.le_of_lt cz) _, SC, HA1, hof2⟩
              case measure => simp [intOf]; omega
    · have hge : ¬ ((k : Int) < (kk : Int) + ((n - kk : Nat) : Int)) := by omega
      obtain rfl : k = n := by omega
      obtain ⟨t, c, y, d, x, s1, s2, s3, s4, s5, s6, s7, sf, sz⟩ := S.out
      have sc := HSc.out
      rw [List.drop_eq_nil_of_le (by have := HN.out; omega), scan] at sc
      have SC : Hid (scan kk len rs 0 off none = some st) := sc.symm
      have S1 : Hid ((st = none → t = 0 ∧ c = 0 ∧ y = 0 ∧ d = 0 ∧ x = 0) ∧ (∀ k, st = some k → d = (k : Int))) := ⟨s1, s2⟩
      clear sc HSc s1 s2 S
      go_wp2
      refine bodyPost_ret (v := .tuple #[.agg #[.int .u16 t, .int .u16 c, .int .u32 y, .int .i64 d, .int .i64 x], .bool st.isSome, .nilIface]) (by simp [results, Ybaf.results8, go_sem, s3, s4, s5, s6, s7]) rfl ⟨?_, ?_⟩
      · rw [SC.out]
        cases st with
        | none =>
          obtain ⟨rfl, rfl, rfl, rfl, rfl⟩ := S1.out.1 rfl
          rfl
        | some k =>
          obtain rfl := S1.out.2 k rfl
          exact ⟨t, c, y, x, rfl⟩
      · exact ((((HBr.out.setCell (by simp) _).setCell (by simp) _).setCell (by simp) _).setCell (by simp) _).setCell (by simp) _
end Go.Proofs.YbulkadjmFmt
