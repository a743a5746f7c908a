import Derived.Test.YbulkadpkChkA
namespace Go.Proofs.Ybulkadpk
open Go.RowKit Go.QuietTail
set_option linter.unusedVariables false
set_option linter.unusedSimpArgs false

set_option maxHeartbeats 1000000 in
/-- Where the family is served as it is. -/
theorem check_plain (c : Bool) (k mask : Int) (M : List (List Int)) (mp : Option Addr) (mc : Nat) (q : Option Addr) (qc : Nat) (g pc : Nat) (w : World) (hk0 : 0 ≤ k) (hk1 : k ≤ 255) (hm0 : 0 ≤ mask) (hm1 : mask ≤ 255)
    (hml : M.length ≤ 4096) (hb : (c && bitOf mask k) = false) (hg : g < w.heap.size) (hc : ∀ j u, (famC (nmB k) (tyB c) false (.slice q M.length qc))[j]? = some u → w.cell? ⟨g, j, none⟩ = some u) :
    Calls Yba.prog 13 #[.agg #[.int .u8 k, .bool c, .slice mp M.length mc], .int .u8 mask, .slice (some ⟨g, 0, none⟩) 1 pc] w fun e w' => e = .returned (.bool true) ∧ Below w.heap.size w w' := by
  have e0 := hc 0 _ rfl
  have e1 := hc 1 _ rfl
  have e2 := hc 2 _ rfl
  have e3 := hc 3 _ rfl
  have e4 := hc 4 _ rfl
  have e5 := hc 5 _ rfl
  generalize M.length = N at *
  clear hc
  cases c
  · go_enter Yba.func13, Yba.ntmps13
    go_wp2_with (go_at_call 9; refine (name_at k hk0 hk1 _).mono ?_; rintro e w1 ⟨rfl, rfl⟩)
    obtain ⟨W, hW⟩ : ∃ W, W = (w.alloc (.cells #[.int .u8 k, .bool false, .slice mp N mc] 43)).alloc (.cells #[.string (nmB k), .string (tyB false), .string ByteArray.empty, .string ⟨#[104]⟩, .bool false, .slice q N qc] 79) := ⟨_, rfl⟩
    have B1 : Blk W w.heap.size 43 [.int .u8 k, .bool false, .slice mp N mc] := by rw [hW]; exact (Blk.new w 43 _).alloc _
    have B2 : Blk W (w.heap.size + 1) 79 [.string (nmB k), .string (tyB false), .string ByteArray.empty, .string ⟨#[104]⟩, .bool false, .slice q N qc] := by
      rw [hW]
      have := Blk.new (w.alloc (.cells #[.int .u8 k, .bool false, .slice mp N mc] 43)) 79 [.string (nmB k), .string (tyB false), .string ByteArray.empty, .string ⟨#[104]⟩, .bool false, .slice q N qc]
      rw [World.size_alloc] at this
      exact this
    have HBW : Hid (Below w.heap.size w W) := by show Below _ _ _; rw [hW]; exact ((Below.refl _ w).alloc (Nat.le_refl _) _).alloc (by simp) _
    rw [← hW]
    clear hW e0 e1 e2 e3 e4 e5
    have hN : Nonempty (Later W) := ⟨⟨W, Below.refl _ _⟩⟩
    have k0 : ∀ p : Later W, p.w.cell? ⟨w.heap.size + 1, 0, none⟩ = some (.string (nmB k)) := fun p => (B2.on p.h).cell 0
    have k1 : ∀ p : Later W, p.w.cell? ⟨w.heap.size + 1, 1, none⟩ = some (.string (tyB false)) := fun p => (B2.on p.h).cell 1
    have k3 : ∀ p : Later W, p.w.cell? ⟨w.heap.size + 1, 3, none⟩ = some (.string ⟨#[104]⟩) := fun p => (B2.on p.h).cell 3
    have k5 : ∀ p : Later W, p.w.cell? ⟨w.heap.size + 1, 5, none⟩ = some (.slice q N qc) := fun p => (B2.on p.h).cell 5
    have l1 : ∀ p : Later W, p.w.cell? ⟨w.heap.size, 1, none⟩ = some (.bool false) := fun p => (B1.on p.h).cell 1
    have l2 : ∀ p : Later W, p.w.cell? ⟨w.heap.size, 2, none⟩ = some (.slice mp N mc) := fun p => (B1.on p.h).cell 2
    refine wp_region_later (by kernel_rfl) (by kernel_rfl) ?_
    iterate 9 (go_big_quiet_step (fail))
    go_big_quiet_want
    go_big_quiet_op
    refine ⟨_, fun p => calls_later ((typ_at false _).mono (fun e w' ⟨h1, h2⟩ => ⟨h1, by rw [h2]; exact p.h⟩)), ?_⟩
    go_big_quiet_on
    iterate 17 (go_big_quiet_step (fail))
    refine wpQuiet_nil ?_
    intro w5 hw5
    obtain ⟨⟨_, hb5⟩, rfl⟩ := hw5
    rename World => w5
    go_wp2
    go_ret
    exact ⟨rfl, HBW.out.trans (hb5.mono HBW.out.size)⟩
  · have hb' : (bits BinOp.and .u8 (mask / 2 ^ (k % 3).toNat) 1 == 1) = false := by simpa [bitOf] using hb
    clear hb
    go_enter Yba.func13, Yba.ntmps13
    go_wp2_with (go_at_call 9; refine (name_at k hk0 hk1 _).mono ?_; rintro e w1 ⟨rfl, rfl⟩)
    obtain ⟨W, hW⟩ : ∃ W, W = (w.alloc (.cells #[.int .u8 k, .bool true, .slice mp N mc] 43)).alloc (.cells #[.string (nmB k), .string (tyB true), .string ByteArray.empty, .string ⟨#[104]⟩, .bool false, .slice q N qc] 79) := ⟨_, rfl⟩
    have B1 : Blk W w.heap.size 43 [.int .u8 k, .bool true, .slice mp N mc] := by rw [hW]; exact (Blk.new w 43 _).alloc _
    have B2 : Blk W (w.heap.size + 1) 79 [.string (nmB k), .string (tyB true), .string ByteArray.empty, .string ⟨#[104]⟩, .bool false, .slice q N qc] := by
      rw [hW]
      have := Blk.new (w.alloc (.cells #[.int .u8 k, .bool true, .slice mp N mc] 43)) 79 [.string (nmB k), .string (tyB true), .string ByteArray.empty, .string ⟨#[104]⟩, .bool false, .slice q N qc]
      rw [World.size_alloc] at this
      exact this
    have HBW : Hid (Below w.heap.size w W) := by show Below _ _ _; rw [hW]; exact ((Below.refl _ w).alloc (Nat.le_refl _) _).alloc (by simp) _
    rw [← hW]
    clear hW e0 e1 e2 e3 e4 e5
    have hN : Nonempty (Later W) := ⟨⟨W, Below.refl _ _⟩⟩
    have k0 : ∀ p : Later W, p.w.cell? ⟨w.heap.size + 1, 0, none⟩ = some (.string (nmB k)) := fun p => (B2.on p.h).cell 0
    have k1 : ∀ p : Later W, p.w.cell? ⟨w.heap.size + 1, 1, none⟩ = some (.string (tyB true)) := fun p => (B2.on p.h).cell 1
    have k3 : ∀ p : Later W, p.w.cell? ⟨w.heap.size + 1, 3, none⟩ = some (.string ⟨#[104]⟩) := fun p => (B2.on p.h).cell 3
    have k5 : ∀ p : Later W, p.w.cell? ⟨w.heap.size + 1, 5, none⟩ = some (.slice q N qc) := fun p => (B2.on p.h).cell 5
    have l1 : ∀ p : Later W, p.w.cell? ⟨w.heap.size, 1, none⟩ = some (.bool true) := fun p => (B1.on p.h).cell 1
    have l2 : ∀ p : Later W, p.w.cell? ⟨w.heap.size, 2, none⟩ = some (.slice mp N mc) := fun p => (B1.on p.h).cell 2
    refine wp_region_later (by kernel_rfl) (by kernel_rfl) ?_
    iterate 9 (go_big_quiet_step (fail))
    go_big_quiet_want
    go_big_quiet_op
    refine ⟨_, fun p => calls_later ((typ_at true _).mono (fun e w' ⟨h1, h2⟩ => ⟨h1, by rw [h2]; exact p.h⟩)), ?_⟩
    go_big_quiet_on
    iterate 17 (go_big_quiet_step (fail))
    refine wpQuiet_nil ?_
    intro w5 hw5
    obtain ⟨⟨_, hb5⟩, rfl⟩ := hw5
    rename World => w5
    go_wp2
    go_ret
    exact ⟨rfl, HBW.out.trans (hb5.mono HBW.out.size)⟩
end Go.Proofs.Ybulkadpk
