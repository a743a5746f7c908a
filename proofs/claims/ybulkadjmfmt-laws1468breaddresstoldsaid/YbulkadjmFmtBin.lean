import Derived.Test.YbulkadjmFmtRows
import Derived.WalkKit
import Derived.WalkSpells
import Derived.WalkLawsBesides
import Derived.Deep.QuietTactic
import Derived.BigQuiet
import Derived.Lib.EndianBits
namespace Go.Proofs.YbulkadjmFmt
open Go.RowKit

/-- THE SLICE AT THE HEAD OF BLOCK g HOLDS THE BYTES l (block g is one of the call's own, from B on). -/
def Own (w : World) (B g cap : Nat) (l : List Int) : Prop := w.ownsRow B 5 1 (.slice (some ⟨g, 0, none⟩) l.length cap) l.length (l.map (Value.int .u8))

theorem Own.mk {w : World} {B g cap n : Nat} {l : List Int} {xs : List Value} (h : w.ownsRow B 5 1 (.slice (some ⟨g, 0, none⟩) n cap) n xs) (hn : n = l.length) (hx : xs = l.map (Value.int .u8)) : Own w B g cap l := by
  subst hn; subst hx; exact h

theorem Own.cell {w : World} {B g cap : Nat} {l : List Int} (h : Own w B g cap l) (j : Nat) (hj : j < l.length) : w.cell? ⟨g, j, none⟩ = some (.int .u8 (l.getD j 0)) := by
  have := World.ownsRow.cellAt h j (by omega)
  rw [this]
  simp [hj]

theorem Own.frozen {w : World} {B g cap : Nat} {l : List Int} (h : Own w B g cap l) (j : Nat) : w.frozen? ⟨g, j, none⟩ = false := World.ownsRow.frozenAt h j

theorem Own.stored {w : World} {B g cap : Nat} {l : List Int} (h : Own w B g cap l) (j : Nat) (x : Int) : Own (w.setCell ⟨g, j, none⟩ (.int .u8 x)) B g cap (l.set j x) ∧ w.grownBy (w.setCell ⟨g, j, none⟩ (.int .u8 x)) (some g) := by
  obtain ⟨h1, h2⟩ := World.ownsRow.stored h j (.int .u8 x)
  exact ⟨Own.mk h1 (by simp) (by simp [List.map_set]), h2⟩

theorem Own.kept {w w' : World} {B g cap : Nat} {l : List Int} {row : Option Nat} (h : Own w B g cap l) (hg : w.grownBy w' row) (hne : some g ≠ row) : Own w' B g cap l :=
  World.ownsRow.kept h hg (Or.inr (by simpa [Value.ownBlock] using hne))

theorem Own.alloc {w : World} {B g cap : Nat} {l : List Int} (h : Own w B g cap l) (o : Obj) : Own (w.alloc o) B g cap l := World.ownsRow.alloc h o
theorem Own.drew {w : World} {B g cap : Nat} {l : List Int} (h : Own w B g cap l) : Own w.drew B g cap l := h
theorem Own.drewN {w : World} {B g cap : Nat} {l : List Int} (h : Own w B g cap l) (n : Nat) : Own (w.drewN n) B g cap l := h
theorem Own.lt {w : World} {B g cap : Nat} {l : List Int} (h : Own w B g cap l) : B ≤ g ∧ g < w.heap.size := World.ownsRow.lt h g rfl
theorem Own.cap {w : World} {B g cap : Nat} {l : List Int} (h : Own w B g cap l) : l.length ≤ cap ∧ cap ≤ maxLen := by
  rcases h.2 with ⟨h', _⟩ | ⟨g', cap', cur, h', hb, hg, hnc, hcm, hcs, htake⟩
  · simp at h'
  · simp only [Value.slice.injEq, Option.some.injEq, Addr.mk.injEq, and_true, true_and] at h'
    obtain ⟨rfl, rfl⟩ := h'
    exact ⟨hnc, hcm⟩
theorem Own.take {w : World} {B g cap : Nat} {l : List Int} (h : Own w B g cap l) (k : Nat) (hk : k ≤ l.length) : Own w B g cap (l.take k) := by
  rcases h.2 with ⟨h', _⟩ | ⟨g', cap', cur, h', hb, hg, hnc, hcm, hcs, htake⟩
  · simp at h'
  · simp only [Value.slice.injEq, Option.some.injEq, Addr.mk.injEq, and_true, true_and] at h'
    obtain ⟨rfl, rfl⟩ := h'
    refine ⟨by simp, .inr ⟨g, cap, cur, rfl, hb, hg, by simp; omega, hcm, hcs, ?_⟩⟩
    rw [Nat.mul_one] at htake ⊢
    rw [List.map_take, ← htake, List.take_take, List.length_take]

theorem grownBy_setCell (w : World) (g j : Nat) (v : Value) : w.grownBy (w.setCell ⟨g, j, none⟩ v) (some g) :=
  ⟨rfl, rfl, rfl, by simp, fun k _ hk => heap_setCell_other w ⟨g, j, none⟩ k v (fun e => hk (by simp [e]))⟩
theorem grownBy_trans {a b c : World} {row : Option Nat} (h : a.grownBy b row) (k : b.grownBy c row) : a.grownBy c row :=
  ⟨k.os.trans h.os, k.tape.trans h.tape, k.output.trans h.output, Nat.le_trans h.size k.size, fun i hi hne => (k.block i (Nat.lt_of_lt_of_le hi h.size) hne).trans (h.block i hi hne)⟩
theorem grownBy_drewN (w : World) (n : Nat) (row : Option Nat) : w.grownBy (w.drewN n) row := ⟨rfl, rfl, rfl, Nat.le_refl _, fun _ _ _ => rfl⟩
theorem grownBy_weak {a b : World} (h : a.grownBy b none) (row : Option Nat) : a.grownBy b row := ⟨h.os, h.tape, h.output, h.size, fun i hi _ => h.block i hi (by simp)⟩
theorem grownBy_of_below {a b : World} (h : Below a.heap.size a b) (row : Option Nat) : a.grownBy b row := ⟨h.os, h.tape, h.output, h.size, fun i hi _ => h.block i hi⟩

theorem uint16_any (g o n c : Nat) (b0 b1 : Int) (w : World) (hn : 2 ≤ n) (h0 : w.cell? ⟨g, o, none⟩ = some (.int .u8 b0)) (h1 : w.cell? ⟨g, o + 1, none⟩ = some (.int .u8 b1))
    (k0 : 0 ≤ b0 ∧ b0 ≤ 255) (k1 : 0 ≤ b1 ∧ b1 ≤ 255) (hg : g < w.heap.size) :
    Calls Ybaf.prog 9 #[.agg #[], .slice (some ⟨g, o, none⟩) n c] w fun e w' => e = .returned (.int .u16 (b0 * 256 + b1)) ∧ Below w.heap.size w w' := by
  have hn1 : (1 : Int) < (n : Int) := by omega
  have hn0 : 0 < n := by omega
  obtain ⟨p0, q0⟩ := k0
  obtain ⟨p1, q1⟩ := k1
  go_enter Ybaf.func9, Ybaf.ntmps9
  go_wp2
  go_quiet (fail)
  go_wp2
  go_ret
  refine ⟨?_, below_drewN ((Below.refl _ w).alloc (Nat.le_refl _) _) _⟩
  simp only [Array.getD, List.size_toArray, List.length_cons, List.length_nil]
  simp (disch := omega) [u16_or8]
  omega

theorem uint32_any (g o n c : Nat) (b0 b1 b2 b3 : Int) (w : World) (hn : 4 ≤ n) (h0 : w.cell? ⟨g, o, none⟩ = some (.int .u8 b0)) (h1 : w.cell? ⟨g, o + 1, none⟩ = some (.int .u8 b1))
    (h2 : w.cell? ⟨g, o + 2, none⟩ = some (.int .u8 b2)) (h3 : w.cell? ⟨g, o + 3, none⟩ = some (.int .u8 b3))
    (k0 : 0 ≤ b0 ∧ b0 ≤ 255) (k1 : 0 ≤ b1 ∧ b1 ≤ 255) (k2 : 0 ≤ b2 ∧ b2 ≤ 255) (k3 : 0 ≤ b3 ∧ b3 ≤ 255) (hg : g < w.heap.size) :
    Calls Ybaf.prog 13 #[.agg #[], .slice (some ⟨g, o, none⟩) n c] w fun e w' => e = .returned (.int .u32 (b3 + b2 * 256 + b1 * 65536 + b0 * 16777216)) ∧ Below w.heap.size w w' := by
  have hn1 : (1 : Int) < (n : Int) := by omega
  have hn2 : (2 : Int) < (n : Int) := by omega
  have hn3 : (3 : Int) < (n : Int) := by omega
  have hn0 : 0 < n := by omega
  obtain ⟨p0, q0⟩ := k0
  obtain ⟨p1, q1⟩ := k1
  obtain ⟨p2, q2⟩ := k2
  obtain ⟨p3, q3⟩ := k3
  go_enter Ybaf.func13, Ybaf.ntmps13
  go_wp2
  go_quiet (fail)
  go_wp2
  go_ret
  refine ⟨?_, below_drewN ((Below.refl _ w).alloc (Nat.le_refl _) _) _⟩
  simp only [Array.getD, List.size_toArray, List.length_cons, List.length_nil]
  simp (disch := omega) [u32_or8, u32_or16, u32_or24]

def put16 (l : List Int) (o : Nat) (x : Int) : List Int := (l.set o (x / 256)).set (o + 1) (x % 256)

theorem put16_any (B g cap o n c : Nat) (l : List Int) (x : Int) (w : World) (h : Own w B g cap l) (hn : 2 ≤ n) (ho : o + 2 ≤ l.length) (hx0 : 0 ≤ x) (hx1 : x ≤ 65535) :
    Calls Ybaf.prog 4 #[.agg #[], .slice (some ⟨g, o, none⟩) n c, .int .u16 x] w fun e w' => e = .returned (.tuple #[]) ∧ Own w' B g cap (put16 l o x) ∧ w.grownBy w' (some g) := by
  have hn1 : (1 : Int) < (n : Int) := by omega
  have hn0 : 0 < n := by omega
  have hlt := h.lt.2
  have hne : ¬ g = w.heap.size := by omega
  have h0 := h.cell o (by omega)
  have h1 := h.cell (o + 1) (by omega)
  have f0 := h.frozen o
  have f1 := h.frozen (o + 1)
  have H : Hid (Own w B g cap l) := h
  clear h
  go_enter Ybaf.func4, Ybaf.ntmps4
  go_wp2
  go_end0
  obtain ⟨a1, a2⟩ := H.out.stored o (x / 256)
  obtain ⟨c1, c2⟩ := a1.stored (o + 1) (x % 256)
  exact ⟨rfl, c1.alloc _, grownBy_trans (grownBy_trans a2 c2) (World.grownBy_alloc _ _ _)⟩

theorem info5 : (Ybaf.prog.info? 5).map (fun i => (i.zero, i.size, i.bytes)) = some (some (.int .u8 0), 1, 1) := by kernel_rfl

theorem cells_two_new (w : World) (s : Nat) (hs : s = w.heap.size) (x y : Value) (t : TypeId) : ∀ j u, [x, y][j]? = some u → (w.alloc (.cells #[x, y] t)).cell? ((⟨s, 0, none⟩ : Addr).add j) = some u := by
  subst hs
  intro j u hu
  match j, hu with
  | 0, hu => simp at hu; subst hu; simp [Addr.add]
  | 1, hu => simp at hu; subst hu; simp [Addr.add]

theorem own_of {w : World} {B n : Nat} {v : Value} {xs : List Value} (h : w.ownsRow B 5 1 v n xs) (hv : ¬ v = .slice none 0 0) (l : List Int) (hn : n = l.length) (hx : xs = l.map (Value.int .u8)) :
    ∃ g cap, v = .slice (some ⟨g, 0, none⟩) l.length cap ∧ Own w B g cap l := by
  subst hn; subst hx
  have h' := h
  rcases h'.2 with ⟨h', _⟩ | ⟨g, cap, cur, h', hb, hg, hnc, hcm, hcs, htake⟩
  · exact absurd h' hv
  · subst h'
    exact ⟨g, cap, rfl, h⟩

theorem append16_any (B g cap : Nat) (l : List Int) (x : Int) (w : World) (h : Own w B g cap l) (hl : l.length ≤ 1000000000) (hx0 : 0 ≤ x) (hx1 : x ≤ 65535) (hB : B ≤ w.heap.size) :
    Calls Ybaf.prog 5 #[.agg #[], .slice (some ⟨g, 0, none⟩) l.length cap, .int .u16 x] w fun e w' => ∃ g' cap', e = .returned (.slice (some ⟨g', 0, none⟩) (l ++ [x / 256, x % 256]).length cap') ∧ Own w' B g' cap' (l ++ [x / 256, x % 256]) ∧ w.grownBy w' (some g) := by
  obtain ⟨i0, hi, hz0, hz1, hz2⟩ := info_parts info5
  have H : Hid (Own w B g cap l) := h
  clear h
  go_enter Ybaf.func5, Ybaf.ntmps5
  go_wp2_with (at_builtin; refine wpList_append_own _ rfl _ _ 23 rfl B 5 i0 (.int .u8 0) 1 1 Ybaf.underlying23 hi hz0 hz1 hz2 rfl (by decide) _ _ _ rfl ((H.out.alloc _).alloc _) ⟨w.heap.size + 1, 0, none⟩ 2 2 [.int .u8 (x / 256), .int .u8 (x % 256)] rfl rfl ?c1 ?c2 ?c3 ?c4 ?c5 ?_)
  case c1 => exact cells_two_new (w.alloc (Obj.cells #[] 29)) _ (by simp) _ _ _
  case c2 => intro u hu; simp at hu; rcases hu with rfl | rfl <;> rfl
  case c3 => unfold maxLen; omega
  case c4 => omega
  case c5 => simp; omega
  intro v' w1 hown hgrow hne
  obtain ⟨g', cap', rfl, ho⟩ := own_of hown hne (l ++ [x / 256, x % 256]) (by simp) (by simp)
  have G : w.grownBy w1 (some g) := grownBy_trans (grownBy_trans (World.grownBy_alloc w _ _) (World.grownBy_alloc _ _ _)) hgrow
  clear hown hgrow hne
  go_wp2
  go_ret
  exact ⟨g', cap', rfl, ho, G⟩

theorem cells_four_new (w : World) (s : Nat) (hs : s = w.heap.size) (x y z u : Value) (t : TypeId) : ∀ j v, [x, y, z, u][j]? = some v → (w.alloc (.cells #[x, y, z, u] t)).cell? ((⟨s, 0, none⟩ : Addr).add j) = some v := by
  subst hs
  intro j v hv
  match j, hv with
  | 0, hv => simp at hv; subst hv; simp [Addr.add]
  | 1, hv => simp at hv; subst hv; simp [Addr.add]
  | 2, hv => simp at hv; subst hv; simp [Addr.add]
  | 3, hv => simp at hv; subst hv; simp [Addr.add]

theorem append32_any (B g cap : Nat) (l : List Int) (x : Int) (w : World) (h : Own w B g cap l) (hl : l.length ≤ 1000000000) (hx0 : 0 ≤ x) (hx1 : x ≤ 4294967295) (hB : B ≤ w.heap.size) :
    Calls Ybaf.prog 6 #[.agg #[], .slice (some ⟨g, 0, none⟩) l.length cap, .int .u32 x] w fun e w' => ∃ g' cap', e = .returned (.slice (some ⟨g', 0, none⟩) (l ++ [x / 16777216, x / 65536 % 256, x / 256 % 256, x % 256]).length cap') ∧ Own w' B g' cap' (l ++ [x / 16777216, x / 65536 % 256, x / 256 % 256, x % 256]) ∧ w.grownBy w' (some g) := by
  obtain ⟨i0, hi, hz0, hz1, hz2⟩ := info_parts info5
  have H : Hid (Own w B g cap l) := h
  clear h
  go_enter Ybaf.func6, Ybaf.ntmps6
  go_wp2_with (at_builtin; refine wpList_append_own _ rfl _ _ 23 rfl B 5 i0 (.int .u8 0) 1 1 Ybaf.underlying23 hi hz0 hz1 hz2 rfl (by decide) _ _ _ rfl ((H.out.alloc _).alloc _) ⟨w.heap.size + 1, 0, none⟩ 4 4 [.int .u8 (x / 16777216), .int .u8 (x / 65536 % 256), .int .u8 (x / 256 % 256), .int .u8 (x % 256)] rfl rfl ?c1 ?c2 ?c3 ?c4 ?c5 ?_)
  case c1 => exact cells_four_new (w.alloc (Obj.cells #[] 29)) _ (by simp) _ _ _ _ _
  case c2 => intro u hu; simp at hu; rcases hu with rfl | rfl | rfl | rfl <;> rfl
  case c3 => unfold maxLen; omega
  case c4 => omega
  case c5 => simp; omega
  intro v' w1 hown hgrow hne
  obtain ⟨g', cap', rfl, ho⟩ := own_of hown hne (l ++ [x / 16777216, x / 65536 % 256, x / 256 % 256, x % 256]) (by simp) (by simp)
  have G : w.grownBy w1 (some g) := grownBy_trans (grownBy_trans (World.grownBy_alloc w _ _) (World.grownBy_alloc _ _ _)) hgrow
  clear hown hgrow hne
  go_wp2
  go_ret
  exact ⟨g', cap', rfl, ho, G⟩
end Go.Proofs.YbulkadjmFmt
