import Derived.Test.YbulkadjmFmtErr
import Derived.Test.YbulkadjmFmtBin
import Derived.LoopN
import Derived.Deep.RegionWith
import Derived.Test.YbulkadjmFmtQT
namespace Go.Proofs.YbulkadjmFmt
open Go.RowKit Go.Extern.Stop Go.Stop Go.Extern Go.QuietTail

theorem skip_end (F : Interp) (g n cap : Nat) (off : Nat) (w : World) (hF : F.answers w.tape) (ho : n ≤ off) :
    Calls Ybaf.prog 12 #[.slice (some ⟨g, 0, none⟩) n cap, .int .i64 off] w fun e w' => (∃ b, e = .returned (.tuple #[.int .i64 0, .iface 56 (.pointer (some ⟨b, 0, none⟩))])) ∧ Below w.heap.size w w' := by
  go_enter Ybaf.func12, Ybaf.ntmps12
  go_wp2
  refine wp_loop_rounds 1 ?_
  rw [rounds_succ]
  go_wp2_with (go_at_call 11; refine (malformed_any F _ _ _ hF).mono ?_; rintro e w' ⟨⟨b, rfl⟩, hb⟩)
  go_ret2
  exact ⟨⟨b, rfl⟩, hb⟩

theorem skip_zero (g n cap : Nat) (off : Nat) (w : World) (ho : off < n) (hs : off ≤ 1000000000) (h0 : w.cell? ⟨g, off, none⟩ = some (.int .u8 0)) :
    Calls Ybaf.prog 12 #[.slice (some ⟨g, 0, none⟩) n cap, .int .i64 off] w fun e w' => e = .returned (.tuple #[.int .i64 (off + 1), .nilIface]) ∧ w' = w := by
  have hb : bits BinOp.and IntKind.i64 0 192 = 0 := by decide
  go_enter Ybaf.func12, Ybaf.ntmps12
  go_wp2
  refine wp_loop_rounds 1 ?_
  rw [rounds_succ]
  go_wp2
  go_ret2
  exact ⟨rfl, rfl⟩

theorem skip_ptr (g n cap : Nat) (off : Nat) (w : World) (ho : off < n) (hs : off ≤ 1000000000) (h0 : w.cell? ⟨g, off, none⟩ = some (.int .u8 192)) :
    Calls Ybaf.prog 12 #[.slice (some ⟨g, 0, none⟩) n cap, .int .i64 off] w fun e w' => e = .returned (.tuple #[.int .i64 (off + 2), .nilIface]) ∧ w' = w := by
  have hb : bits BinOp.and IntKind.i64 192 192 = 192 := by decide
  go_enter Ybaf.func12, Ybaf.ntmps12
  go_wp2
  refine wp_loop_rounds 1 ?_
  rw [rounds_succ]
  go_wp2
  go_ret2
  exact ⟨rfl, rfl⟩

/-- The name at a record's head: the root (one byte 0) or a pointer (two bytes, the first 192). -/
def nameAt (b : Int) (d : Nat) : Prop := (b = 0 ∧ d = 1) ∨ (b = 192 ∧ d = 2)

theorem skip_ok (g n cap : Nat) (off d fx : Nat) (b : Int) (w : World) (ho : off < n) (hs : off ≤ 1000000000) (h0 : w.cell? ⟨g, off, none⟩ = some (.int .u8 b)) (hb : nameAt b d) (hfx : fx = off + d) :
    Calls Ybaf.prog 12 #[.slice (some ⟨g, 0, none⟩) n cap, .int .i64 off] w fun e w' => e = .returned (.tuple #[.int .i64 (fx : Int), .nilIface]) ∧ w' = w := by
  subst hfx
  rcases hb with ⟨rfl, rfl⟩ | ⟨rfl, rfl⟩
  · exact skip_zero g n cap off w ho hs h0
  · exact skip_ptr g n cap off w ho hs h0

def zeroRec : Value := .agg #[.int .u16 0, .int .u16 0, .int .u32 0, .int .i64 0, .int .i64 0]

theorem bcell {W w1 : World} (hb : Below W.heap.size W w1) : (∀ b o, b < W.heap.size → w1.cell? ⟨b, o, none⟩ = W.cell? ⟨b, o, none⟩) ∧ (∀ b o, b < W.heap.size → w1.frozen? ⟨b, o, none⟩ = W.frozen? ⟨b, o, none⟩) :=
  ⟨fun b o h => hb.cell (p := ⟨b, o, none⟩) h, fun b o h => hb.frozen (p := ⟨b, o, none⟩) h⟩

/-- The five cells of a record box, read in a later world. -/
theorem box5 {w w1 : World} {v0 v1 v2 v3 v4 : Value} {t : TypeId} (hb : Below (w.heap.size + 1) (w.alloc (.cells #[v0, v1, v2, v3, v4] t)) w1) :
    w1.cell? ⟨w.heap.size, 0, none⟩ = some v0 ∧ w1.cell? ⟨w.heap.size, 1, none⟩ = some v1 ∧ w1.cell? ⟨w.heap.size, 2, none⟩ = some v2 ∧ w1.cell? ⟨w.heap.size, 3, none⟩ = some v3 ∧ w1.cell? ⟨w.heap.size, 4, none⟩ = some v4 ∧
    (∀ o, w1.frozen? ⟨w.heap.size, o, none⟩ = false) ∧ w.heap.size < w1.heap.size := by
  refine ⟨?_, ?_, ?_, ?_, ?_, ?_, ?_⟩
  · rw [hb.cell (p := ⟨w.heap.size, 0, none⟩) (by simp)]; simp
  · rw [hb.cell (p := ⟨w.heap.size, 1, none⟩) (by simp)]; simp
  · rw [hb.cell (p := ⟨w.heap.size, 2, none⟩) (by simp)]; simp
  · rw [hb.cell (p := ⟨w.heap.size, 3, none⟩) (by simp)]; simp
  · rw [hb.cell (p := ⟨w.heap.size, 4, none⟩) (by simp)]; simp
  · intro o; rw [hb.frozen (p := ⟨w.heap.size, o, none⟩) (by simp)]; simp
  · have := hb.size; simp at this; omega

/-- The same one step later. -/
theorem box5_later {W w1 : World} {s : Nat} {v0 v1 v2 v3 v4 : Value} (hb : Below W.heap.size W w1) (c0 : W.cell? ⟨s, 0, none⟩ = some v0) (c1 : W.cell? ⟨s, 1, none⟩ = some v1) (c2 : W.cell? ⟨s, 2, none⟩ = some v2) (c3 : W.cell? ⟨s, 3, none⟩ = some v3) (c4 : W.cell? ⟨s, 4, none⟩ = some v4)
    (hf : ∀ o, W.frozen? ⟨s, o, none⟩ = false) (hz : s < W.heap.size) :
    w1.cell? ⟨s, 0, none⟩ = some v0 ∧ w1.cell? ⟨s, 1, none⟩ = some v1 ∧ w1.cell? ⟨s, 2, none⟩ = some v2 ∧ w1.cell? ⟨s, 3, none⟩ = some v3 ∧ w1.cell? ⟨s, 4, none⟩ = some v4 ∧ (∀ o, w1.frozen? ⟨s, o, none⟩ = false) ∧ s < w1.heap.size :=
  ⟨(hb.cell (p := ⟨s, 0, none⟩) hz).trans c0, (hb.cell (p := ⟨s, 1, none⟩) hz).trans c1, (hb.cell (p := ⟨s, 2, none⟩) hz).trans c2, (hb.cell (p := ⟨s, 3, none⟩) hz).trans c3, (hb.cell (p := ⟨s, 4, none⟩) hz).trans c4,
    fun o => (hb.frozen (p := ⟨s, o, none⟩) hz).trans (hf o), Nat.lt_of_lt_of_le hz hb.size⟩

theorem rr_end (F : Interp) (g n cap : Nat) (off : Nat) (w : World) (hF : F.answers w.tape) (ho : n ≤ off) :
    Calls Ybaf.prog 10 #[.slice (some ⟨g, 0, none⟩) n cap, .int .i64 off] w fun e w' => (∃ b, e = .returned (.tuple #[zeroRec, .iface 56 (.pointer (some ⟨b, 0, none⟩))])) ∧ Below w.heap.size w w' := by
  go_enter Ybaf.func10, Ybaf.ntmps10
  go_wp2_with fail
  refine (skip_end F g n cap off _ (by exact hF) ho).mono ?_
  rintro e w1 ⟨⟨b, rfl⟩, hb⟩
  rw [World.size_alloc] at hb
  obtain ⟨c0, c1, c2, c3, c4, hf, hz⟩ := box5 hb
  go_wp2
  refine bodyPost_ret (v := .tuple #[zeroRec, .iface 56 (.pointer (some ⟨b, 0, none⟩))]) (by simp [results, Ybaf.results10, go_sem, zeroRec, c0, c1, c2, c3, c4]) rfl ⟨⟨b, rfl⟩, ?_⟩
  have h1 : Below w.heap.size w w1 := ((Below.refl _ w).alloc (Nat.le_refl _) _).trans (hb.mono (by omega))
  exact ((((h1.setCell (by simp) _).setCell (by simp) _).setCell (by simp) _).setCell (by simp) _).setCell (by simp) _

theorem rr_short (F : Interp) (g n cap : Nat) (off d fx : Nat) (b : Int) (w : World) (hF : F.answers w.tape) (hg : g < w.heap.size) (ho : off < n) (hs : off ≤ 1000000000) (h0 : w.cell? ⟨g, off, none⟩ = some (.int .u8 b)) (hb : nameAt b d) (hfx : Hid (fx = off + d)) (hd : n < fx + 10) (hd2 : fx ≤ 1000000002) :
    Calls Ybaf.prog 10 #[.slice (some ⟨g, 0, none⟩) n cap, .int .i64 off] w fun e w' => (∃ b, e = .returned (.tuple #[zeroRec, .iface 56 (.pointer (some ⟨b, 0, none⟩))])) ∧ Below w.heap.size w w' := by
  have h0' : ∀ o, (w.alloc o).cell? ⟨g, off, none⟩ = some (.int .u8 b) := fun o => by rw [World.cell?_alloc_old _ _ _ (by simp; omega)]; exact h0
  go_enter Ybaf.func10, Ybaf.ntmps10
  go_wp2_with fail
  refine (skip_ok g n cap off d fx b _ ho hs (h0' _) hb hfx.out).mono ?_
  rintro e w1 ⟨rfl, rfl⟩
  go_wp2_with fail
  refine (malformed_any F _ _ _ (by exact hF)).mono ?_
  rintro e w1 ⟨⟨b, rfl⟩, hb⟩
  rw [World.size_alloc] at hb
  obtain ⟨c0, c1, c2, c3, c4, hf, hz⟩ := box5 hb
  go_wp2
  refine bodyPost_ret (v := .tuple #[zeroRec, .iface 56 (.pointer (some ⟨b, 0, none⟩))]) (by simp [results, Ybaf.results10, go_sem, zeroRec, c0, c1, c2, c3, c4]) rfl ⟨⟨b, rfl⟩, ?_⟩
  have h1 : Below w.heap.size w w1 := ((Below.refl _ w).alloc (Nat.le_refl _) _).trans (hb.mono (by omega))
  exact ((((h1.setCell (by simp) _).setCell (by simp) _).setCell (by simp) _).setCell (by simp) _).setCell (by simp) _

theorem uint16_at (W : World) (g o n c : Nat) (b0 b1 : Int) (w : World) (hx : Below W.heap.size W w) (hn : 2 ≤ n) (h0 : W.cell? ⟨g, o, none⟩ = some (.int .u8 b0)) (h1 : W.cell? ⟨g, o + 1, none⟩ = some (.int .u8 b1))
    (k0 : 0 ≤ b0 ∧ b0 ≤ 255) (k1 : 0 ≤ b1 ∧ b1 ≤ 255) (hg : g < W.heap.size) :
    Calls Ybaf.prog 9 #[.agg #[], .slice (some ⟨g, o, none⟩) n c] w fun e w' => e = .returned (.int .u16 (b0 * 256 + b1)) ∧ Below W.heap.size W w' := by
  refine (uint16_any g o n c b0 b1 w hn (by rw [hx.cell (p := ⟨g, o, none⟩) hg]; exact h0) (by rw [hx.cell (p := ⟨g, o + 1, none⟩) hg]; exact h1) k0 k1 (Nat.lt_of_lt_of_le hg hx.size)).mono ?_
  rintro e w' ⟨rfl, hb⟩
  exact ⟨rfl, hx.trans (hb.mono hx.size)⟩

theorem uint32_at (W : World) (g o n c : Nat) (b0 b1 b2 b3 : Int) (w : World) (hx : Below W.heap.size W w) (hn : 4 ≤ n) (h0 : W.cell? ⟨g, o, none⟩ = some (.int .u8 b0)) (h1 : W.cell? ⟨g, o + 1, none⟩ = some (.int .u8 b1))
    (h2 : W.cell? ⟨g, o + 2, none⟩ = some (.int .u8 b2)) (h3 : W.cell? ⟨g, o + 3, none⟩ = some (.int .u8 b3)) (k0 : 0 ≤ b0 ∧ b0 ≤ 255) (k1 : 0 ≤ b1 ∧ b1 ≤ 255) (k2 : 0 ≤ b2 ∧ b2 ≤ 255) (k3 : 0 ≤ b3 ∧ b3 ≤ 255) (hg : g < W.heap.size) :
    Calls Ybaf.prog 13 #[.agg #[], .slice (some ⟨g, o, none⟩) n c] w fun e w' => e = .returned (.int .u32 (b3 + b2 * 256 + b1 * 65536 + b0 * 16777216)) ∧ Below W.heap.size W w' := by
  refine (uint32_any g o n c b0 b1 b2 b3 w hn (by rw [hx.cell (p := ⟨g, o, none⟩) hg]; exact h0) (by rw [hx.cell (p := ⟨g, o + 1, none⟩) hg]; exact h1) (by rw [hx.cell (p := ⟨g, o + 2, none⟩) hg]; exact h2) (by rw [hx.cell (p := ⟨g, o + 3, none⟩) hg]; exact h3) k0 k1 k2 k3 (Nat.lt_of_lt_of_le hg hx.size)).mono ?_
  rintro e w' ⟨he, hb⟩
  exact ⟨he, hx.trans (hb.mono hx.size)⟩

theorem calls_later {W w : World} {f : FuncId} {args : Array Value} {v : Value} (h : Calls Ybaf.prog f args w fun e w' => e = .returned v ∧ Below W.heap.size W w') : Calls Ybaf.prog f args w fun e w' => e = .returned v ∧ ∃ q : Later W, w' = q.w :=
  h.mono fun _ _ ⟨he, hb⟩ => ⟨he, Later.ex hb⟩

theorem rr_data (F : Interp) (g n cap : Nat) (off d fx : Nat) (b k0 k1 : Int) (w : World) (hF : F.answers w.tape) (hg : g < w.heap.size) (ho : off < n) (hs : off ≤ 1000000000) (h0 : w.cell? ⟨g, off, none⟩ = some (.int .u8 b)) (hb : nameAt b d) (hfx : Hid (fx = off + d)) (hd2 : fx ≤ 1000000002)
    (hd : fx + 10 ≤ n) (hnc : n ≤ cap) (h8 : w.cell? ⟨g, fx + 8, none⟩ = some (.int .u8 k0)) (h9 : w.cell? ⟨g, fx + 8 + 1, none⟩ = some (.int .u8 k1)) (b0 : 0 ≤ k0 ∧ k0 ≤ 255) (b1 : 0 ≤ k1 ∧ k1 ≤ 255)
    (hbig : (n : Int) < fx + 10 + (k0 * 256 + k1)) :
    Calls Ybaf.prog 10 #[.slice (some ⟨g, 0, none⟩) n cap, .int .i64 off] w fun e w' => (∃ b, e = .returned (.tuple #[zeroRec, .iface 56 (.pointer (some ⟨b, 0, none⟩))])) ∧ Below w.heap.size w w' := by
  have h0' : ∀ o, (w.alloc o).cell? ⟨g, off, none⟩ = some (.int .u8 b) := fun o => by rw [World.cell?_alloc_old _ _ _ (by simp; omega)]; exact h0
  have e8 : ((fx : Int) + 8).toNat = fx + 8 := by omega
  have l8 : (fx : Int) + 8 ≤ (n : Int) := by omega
  have l9 : 0 ≤ (fx : Int) + 8 := by omega
  have n8 : ¬ cap = fx + 8 := by omega
  have w8 : IntKind.i64.wrap ((fx : Int) + 8) = (fx : Int) + 8 := IntWalk.i64_in _ (by omega)
  have w10 : IntKind.i64.wrap ((fx : Int) + 10) = (fx : Int) + 10 := IntWalk.i64_in _ (by omega)
  have hBx := (Below.refl (w.heap.size + 1) (w.alloc (.cells #[.int .u16 0, .int .u16 0, .int .u32 0, .int .i64 0, .int .i64 0] 40)))
  have hB1 := (Below.refl w.heap.size w).alloc (Nat.le_refl _) (.cells #[.int .u16 0, .int .u16 0, .int .u32 0, .int .i64 0, .int .i64 0] 40)
  have h8' : ∀ o, (w.alloc o).cell? ⟨g, fx + 8, none⟩ = some (.int .u8 k0) := fun o => by rw [World.cell?_alloc_old _ _ _ (by simp; omega)]; exact h8
  have h9' : ∀ o, (w.alloc o).cell? ⟨g, fx + 8 + 1, none⟩ = some (.int .u8 k1) := fun o => by rw [World.cell?_alloc_old _ _ _ (by simp; omega)]; exact h9
  have q8 := h8' (.cells #[.int .u16 0, .int .u16 0, .int .u32 0, .int .i64 0, .int .i64 0] 40)
  have q9 := h9' (.cells #[.int .u16 0, .int .u16 0, .int .u32 0, .int .i64 0, .int .i64 0] 40)
  obtain ⟨c0, c1, c2, c3, c4, hf, hz⟩ := box5 hBx
  have hgW : g < (w.alloc (.cells #[.int .u16 0, .int .u16 0, .int .u32 0, .int .i64 0, .int .i64 0] 40)).heap.size := by simp; omega
  clear hBx
  go_enter Ybaf.func10, Ybaf.ntmps10
  go_wp2_with fail
  refine (skip_ok g n cap off d fx b _ ho hs (h0' _) hb hfx.out).mono ?_
  rintro e w1 ⟨rfl, rfl⟩
  clear h0' h8' h9' h8 h9 h0
  generalize hW : (w.alloc (.cells #[.int .u16 0, .int .u16 0, .int .u32 0, .int .i64 0, .int .i64 0] 40)) = W at *
  have HT : Hid (W.tape = w.tape) := by rw [← hW]; exact rfl
  clear hW
  go_wp2_with fail
  go_region_with (go_at_call 9; refine (uint16_at W g _ _ _ k0 k1 _ ?_ (by omega) q8 q9 b0 b1 hgW).mono ?_; exact (Below.refl _ _).drew; rintro e w2 ⟨rfl, hb2⟩)
  obtain ⟨d0, d1, d2, d3, d4, df, dz⟩ := box5_later hb2 c0 c1 c2 c3 c4 hf hz
  clear c0 c1 c2 c3 c4 hf q8 q9 w8 w10 e8 l8 l9 n8
  have hF2 : F.answers w2.tape := by rw [hb2.tape, HT.out]; exact hF
  go_wp2_with fail
  refine (malformed_any F _ _ _ hF2).mono ?_
  rintro e w3 ⟨⟨b3, rfl⟩, hb3⟩
  obtain ⟨c0, c1, c2, c3, c4, cf, cz⟩ := box5_later hb3 d0 d1 d2 d3 d4 df dz
  clear d0 d1 d2 d3 d4 df hF2
  go_wp2
  refine bodyPost_ret (v := .tuple #[zeroRec, .iface 56 (.pointer (some ⟨b3, 0, none⟩))]) (by simp [results, Ybaf.results10, go_sem, zeroRec, c0, c1, c2, c3, c4]) rfl ⟨⟨b3, rfl⟩, ?_⟩
  have h1 : Below w.heap.size w w3 := (hB1.trans (hb2.mono (Nat.le_of_lt hz))).trans (hb3.mono (Nat.le_of_lt dz))
  exact ((((h1.setCell (by simp) _).setCell (by simp) _).setCell (by simp) _).setCell (by simp) _).setCell (by simp) _

set_option maxHeartbeats 1000000 in
theorem rr_ok (g n cap : Nat) (off d fx : Nat) (b t0 t1 x0 x1 y0 y1 y2 y3 k0 k1 : Int) (w : World) (hg : g < w.heap.size) (ho : off < n) (hs : off ≤ 1000000000) (h0 : w.cell? ⟨g, off, none⟩ = some (.int .u8 b)) (hb : nameAt b d) (hfx : Hid (fx = off + d)) (hd2 : fx ≤ 1000000002)
    (hd : fx + 10 ≤ n) (hnc : n ≤ cap) 
    (p0 : w.cell? ⟨g, fx, none⟩ = some (.int .u8 t0)) (p1 : w.cell? ⟨g, fx + 1, none⟩ = some (.int .u8 t1))
    (p2 : w.cell? ⟨g, fx + 2, none⟩ = some (.int .u8 x0)) (p3 : w.cell? ⟨g, fx + 2 + 1, none⟩ = some (.int .u8 x1))
    (p4 : w.cell? ⟨g, fx + 4, none⟩ = some (.int .u8 y0)) (p5 : w.cell? ⟨g, fx + 4 + 1, none⟩ = some (.int .u8 y1)) (p6 : w.cell? ⟨g, fx + 4 + 2, none⟩ = some (.int .u8 y2)) (p7 : w.cell? ⟨g, fx + 4 + 3, none⟩ = some (.int .u8 y3))
    (h8 : w.cell? ⟨g, fx + 8, none⟩ = some (.int .u8 k0)) (h9 : w.cell? ⟨g, fx + 8 + 1, none⟩ = some (.int .u8 k1)) 
    (bt0 : 0 ≤ t0 ∧ t0 ≤ 255) (bt1 : 0 ≤ t1 ∧ t1 ≤ 255) (bx0 : 0 ≤ x0 ∧ x0 ≤ 255) (bx1 : 0 ≤ x1 ∧ x1 ≤ 255) (by0 : 0 ≤ y0 ∧ y0 ≤ 255) (by1 : 0 ≤ y1 ∧ y1 ≤ 255) (by2 : 0 ≤ y2 ∧ y2 ≤ 255) (by3 : 0 ≤ y3 ∧ y3 ≤ 255) (b0 : 0 ≤ k0 ∧ k0 ≤ 255) (b1 : 0 ≤ k1 ∧ k1 ≤ 255)
    (hbig : fx + 10 + (k0 * 256 + k1) ≤ (n : Int)) :
    Calls Ybaf.prog 10 #[.slice (some ⟨g, 0, none⟩) n cap, .int .i64 off] w fun e w' => (∃ c y, e = .returned (.tuple #[.agg #[.int .u16 (t0 * 256 + t1), .int .u16 c, .int .u32 y, .int .i64 (fx + 10), .int .i64 (fx + 10 + (k0 * 256 + k1))], .nilIface])) ∧ Below w.heap.size w w' := by
  have old : ∀ o j (v : Value), w.cell? ⟨g, j, none⟩ = some v → (w.alloc o).cell? ⟨g, j, none⟩ = some v := fun o j v h => by rw [World.cell?_alloc_old _ _ _ (by simp; omega)]; exact h
  have e8 : ((fx : Int) + 8).toNat = fx + 8 := by omega
  have l8 : (fx : Int) + 8 ≤ (n : Int) := by omega
  have l9 : 0 ≤ (fx : Int) + 8 := by omega
  have n8 : ¬ cap = fx + 8 := by omega
  have w8 : IntKind.i64.wrap ((fx : Int) + 8) = (fx : Int) + 8 := IntWalk.i64_in _ (by omega)
  have w10 : IntKind.i64.wrap ((fx : Int) + 10) = (fx : Int) + 10 := IntWalk.i64_in _ (by omega)
  have hBx := (Below.refl (w.heap.size + 1) (w.alloc (.cells #[.int .u16 0, .int .u16 0, .int .u32 0, .int .i64 0, .int .i64 0] 40)))
  have hB1 := (Below.refl w.heap.size w).alloc (Nat.le_refl _) (.cells #[.int .u16 0, .int .u16 0, .int .u32 0, .int .i64 0, .int .i64 0] 40)
  have r0 := old (.cells #[.int .u16 0, .int .u16 0, .int .u32 0, .int .i64 0, .int .i64 0] 40) _ _ p0
  have r1 := old (.cells #[.int .u16 0, .int .u16 0, .int .u32 0, .int .i64 0, .int .i64 0] 40) _ _ p1
  have r2 := old (.cells #[.int .u16 0, .int .u16 0, .int .u32 0, .int .i64 0, .int .i64 0] 40) _ _ p2
  have r3 := old (.cells #[.int .u16 0, .int .u16 0, .int .u32 0, .int .i64 0, .int .i64 0] 40) _ _ p3
  have r4 := old (.cells #[.int .u16 0, .int .u16 0, .int .u32 0, .int .i64 0, .int .i64 0] 40) _ _ p4
  have r5 := old (.cells #[.int .u16 0, .int .u16 0, .int .u32 0, .int .i64 0, .int .i64 0] 40) _ _ p5
  have r6 := old (.cells #[.int .u16 0, .int .u16 0, .int .u32 0, .int .i64 0, .int .i64 0] 40) _ _ p6
  have r7 := old (.cells #[.int .u16 0, .int .u16 0, .int .u32 0, .int .i64 0, .int .i64 0] 40) _ _ p7
  have q8 := old (.cells #[.int .u16 0, .int .u16 0, .int .u32 0, .int .i64 0, .int .i64 0] 40) _ _ h8
  have q9 := old (.cells #[.int .u16 0, .int .u16 0, .int .u32 0, .int .i64 0, .int .i64 0] 40) _ _ h9
  have h0' := old (.cells #[.int .u16 0, .int .u16 0, .int .u32 0, .int .i64 0, .int .i64 0] 40) _ _ h0
  obtain ⟨c0, c1, c2, c3, c4, hf, hz⟩ := box5 hBx
  have hgW : g < (w.alloc (.cells #[.int .u16 0, .int .u16 0, .int .u32 0, .int .i64 0, .int .i64 0] 40)).heap.size := by simp; omega
  clear hBx
  go_enter Ybaf.func10, Ybaf.ntmps10
  go_wp2_with fail
  refine (skip_ok g n cap off d fx b _ ho hs h0' hb hfx.out).mono ?_
  rintro e w1 ⟨rfl, rfl⟩
  clear h0' h8 h9 h0 old p0 p1 p2 p3 p4 p5 p6 p7
  generalize hW : (w.alloc (.cells #[.int .u16 0, .int .u16 0, .int .u32 0, .int .i64 0, .int .i64 0] 40)) = W at *
  clear hW
  go_wp2_with fail
  go_region_with (go_at_call 9; refine (uint16_at W g _ _ _ k0 k1 _ ?_ (by omega) q8 q9 b0 b1 hgW).mono ?_; exact (Below.refl _ _).drew; rintro e w2 ⟨rfl, hb2⟩)
  clear q8 q9 w8 e8 l8 l9 n8
  have R0 : w2.cell? ⟨g, fx, none⟩ = some (.int .u8 t0) := (hb2.cell (p := ⟨g, fx, none⟩) hgW).trans r0
  have R1 : w2.cell? ⟨g, fx + 1, none⟩ = some (.int .u8 t1) := (hb2.cell (p := ⟨g, fx + 1, none⟩) hgW).trans r1
  have R2 : w2.cell? ⟨g, fx + 2, none⟩ = some (.int .u8 x0) := (hb2.cell (p := ⟨g, fx + 2, none⟩) hgW).trans r2
  have R3 : w2.cell? ⟨g, fx + 2 + 1, none⟩ = some (.int .u8 x1) := (hb2.cell (p := ⟨g, fx + 2 + 1, none⟩) hgW).trans r3
  have R4 : w2.cell? ⟨g, fx + 4, none⟩ = some (.int .u8 y0) := (hb2.cell (p := ⟨g, fx + 4, none⟩) hgW).trans r4
  have R5 : w2.cell? ⟨g, fx + 4 + 1, none⟩ = some (.int .u8 y1) := (hb2.cell (p := ⟨g, fx + 4 + 1, none⟩) hgW).trans r5
  have R6 : w2.cell? ⟨g, fx + 4 + 2, none⟩ = some (.int .u8 y2) := (hb2.cell (p := ⟨g, fx + 4 + 2, none⟩) hgW).trans r6
  have R7 : w2.cell? ⟨g, fx + 4 + 3, none⟩ = some (.int .u8 y3) := (hb2.cell (p := ⟨g, fx + 4 + 3, none⟩) hgW).trans r7
  have hg2 : g < w2.heap.size := Nat.lt_of_lt_of_le hgW hb2.size
  obtain ⟨d0, d1, d2, d3, d4, df, dz⟩ := box5_later hb2 c0 c1 c2 c3 c4 hf hz
  have hB2 : Below w.heap.size w w2 := hB1.trans (hb2.mono (Nat.le_of_lt hz))
  clear c0 c1 c2 c3 c4 hf r0 r1 r2 r3 r4 r5 r6 r7 hgW hz hb2 hB1
  go_wp2_with fail
  have m0 : ¬ cap = fx := by omega
  have m2 : ¬ cap = fx + 2 := by omega
  have m4 : ¬ cap = fx + 4 := by omega
  refine wp_region_later_tail 21 (by kernel_rfl) (by kernel_rfl) ?_
  simp only [List.take_succ_cons, List.take_zero, List.drop_succ_cons, List.drop_zero]
  have hN : Nonempty (Later w2) := ⟨⟨w2, Below.refl _ _⟩⟩
  iterate 4 (go_big_quiet_step (fail))
  go_big_quiet_want
  go_big_quiet_op
  refine ⟨_, fun p => calls_later (uint16_at w2 g _ _ _ t0 t1 _ p.h (by omega) R0 R1 bt0 bt1 hg2), ?_⟩
  go_big_quiet_on
  iterate 5 (go_big_quiet_step (fail))
  go_big_quiet_want
  go_big_quiet_op
  refine ⟨_, fun p => calls_later (uint16_at w2 g _ _ _ x0 x1 _ p.h (by omega) R2 R3 bx0 bx1 hg2), ?_⟩
  go_big_quiet_on
  iterate 5 (go_big_quiet_step (fail))
  go_big_quiet_want
  go_big_quiet_op
  refine ⟨_, fun p => calls_later (uint32_at w2 g _ _ _ y0 y1 y2 y3 _ p.h (by omega) R4 R5 R6 R7 by0 by1 by2 by3 hg2), ?_⟩
  go_big_quiet_on
  iterate 4 (go_big_quiet_step (fail))
  refine wpQuiet_nil ?_
  intro w5 hw5
  obtain ⟨⟨w6, hb6⟩, rfl⟩ := hw5
  obtain ⟨c0, c1, c2, c3, c4, cf, cz⟩ := box5_later hb6 d0 d1 d2 d3 d4 df dz
  clear R0 R1 R2 R3 R4 R5 R6 R7 d0 d1 d2 d3 d4 df hN m0 m2 m4
  go_wp2
  refine bodyPost_ret (v := .tuple #[.agg #[.int .u16 (t0 * 256 + t1), .int .u16 (x0 * 256 + x1), .int .u32 (y3 + y2 * 256 + y1 * 65536 + y0 * 16777216), .int .i64 (fx + 10), .int .i64 (fx + 10 + (k0 * 256 + k1))], .nilIface]) (by simp [results, Ybaf.results10, go_sem, c0, c1, c2, c3, c4]) rfl ⟨⟨_, _, rfl⟩, ?_⟩
  have h1 : Below w.heap.size w w5 := hB2.trans (hb6.mono (Nat.le_of_lt dz))
  exact ((((h1.setCell (by simp) _).setCell (by simp) _).setCell (by simp) _).setCell (by simp) _).setCell (by simp) _
end Go.Proofs.YbulkadjmFmt
