import Derived.Test.YbulkadpkItr
namespace Go.Proofs.Ybulkadpk
open Go.RowKit Go.QuietTail Go.CountedRange
set_option linter.unusedVariables false
set_option linter.unusedSimpArgs false

def InFams (lo hi : Nat) (w : World) (v : Value) (F : List Zf) : Prop := SubL lo hi w v 3 (fun (z : Zf) (mv : Value) => [.int .u8 z.k, .bool z.c, mv]) (fun _ mv z => InMets lo hi w mv z.M ∧ 0 ≤ z.k ∧ z.k ≤ 255) F
def InGrps (lo hi : Nat) (w : World) (v : Value) (G : List (List Zf)) : Prop := SubL lo hi w v 1 (fun (_ : List Zf) (x : Value) => [x]) (fun _ x g => InFams lo hi w x g) G
theorem InFams.kept {lo hi lo' hi' : Nat} {w w' : World} {v : Value} {F : List Zf} (h : InFams lo hi w v F) (hk : Keep lo hi w w') (hl : lo' ≤ lo) (hh : hi ≤ hi') : InFams lo' hi' w' v F := SubL.kept h hk hl hh (fun _ _ _ h => ⟨h.1.kept hk hl hh, h.2⟩)
theorem InGrps.kept {lo hi lo' hi' : Nat} {w w' : World} {v : Value} {G : List (List Zf)} (h : InGrps lo hi w v G) (hk : Keep lo hi w w') (hl : lo' ≤ lo) (hh : hi ≤ hi') : InGrps lo' hi' w' v G := SubL.kept h hk hl hh (fun _ _ _ h => h.kept hk hl hh)

/-- The samples that the law counts. -/
def smp (M : List (List Int)) : Nat := M.flatten.length + M.length
def smps (F : List Zf) : Nat := (F.map fun z => smp z.M).sum
theorem smps_snoc (F : List Zf) (z : Zf) : smps (F ++ [z]) = smps F + smp z.M := by simp [smps]
theorem smp_snoc (M : List (List Int)) (m : List Int) : smp (M ++ [m]) = smp M + (m.length + 1) := by simp [smp]; omega
def Fits (G : List (List Zf)) : Prop := G.length ≤ 256 ∧ G.flatten.length ≤ 1024 ∧ (∀ z ∈ G.flatten, z.M.length ≤ 1024) ∧ smps G.flatten ≤ 4096

/-- The law's first boxes. -/
structure Bx (w0 : World) (b3 b4 b6 b7 : Nat) (gv : Value) (mask : Int) (tot : Nat) (w : World) : Prop where
  g : Blk w b3 38 [gv]
  m : Blk w b4 5 [.int .u8 mask]
  r : Blk w b6 4 [.bool false]
  t : Blk w b7 3 [.int .i64 tot]
  b : Below w0.heap.size w0 w
  o : w0.heap.size ≤ b3 ∧ b3 < b4 ∧ b4 < b6 ∧ b6 < b7
theorem Bx.on {w0 : World} {b3 b4 b6 b7 : Nat} {gv : Value} {mask : Int} {tot : Nat} {w w' : World} (h : Bx w0 b3 b4 b6 b7 gv mask tot w) (hb : Below w.heap.size w w') : Bx w0 b3 b4 b6 b7 gv mask tot w' :=
  ⟨h.g.on hb, h.m.on hb, h.r.on hb, h.t.on hb, h.b.trans (hb.mono h.b.size), h.o⟩
theorem Bx.below {w0 : World} {b3 b4 b6 b7 : Nat} {gv : Value} {mask : Int} {tot : Nat} {w w' : World} {n : Nat} (h : Bx w0 b3 b4 b6 b7 gv mask tot w) (hb : Below n w w') (hn : b7 < n) : Bx w0 b3 b4 b6 b7 gv mask tot w' := by
  obtain ⟨o1, o2, o3, o4⟩ := h.o
  exact ⟨h.g.later hb (by omega), h.m.later hb (by omega), h.r.later hb (by omega), h.t.later hb (by omega), h.b.trans (hb.mono (by omega)), h.o⟩
theorem Bx.kept {w0 : World} {b3 b4 b6 b7 : Nat} {gv : Value} {mask : Int} {tot : Nat} {w w' : World} {row : Option Nat} (h : Bx w0 b3 b4 b6 b7 gv mask tot w) (hg : w.grownBy w' row) (hn : ∀ k, row = some k → b7 < k) : Bx w0 b3 b4 b6 b7 gv mask tot w' := by
  obtain ⟨o1, o2, o3, o4⟩ := h.o
  exact ⟨h.g.kept hg (fun e => by have := hn _ e.symm; omega), h.m.kept hg (fun e => by have := hn _ e.symm; omega), h.r.kept hg (fun e => by have := hn _ e.symm; omega), h.t.kept hg (fun e => by have := hn _ e.symm; omega), h.b.grown hg h.b.size (fun k e => by have := hn _ e; omega), h.o⟩
theorem Bx.set {w0 : World} {b3 b4 b6 b7 : Nat} {gv : Value} {mask : Int} {tot : Nat} {w : World} (h : Bx w0 b3 b4 b6 b7 gv mask tot w) (n : Nat) : Bx w0 b3 b4 b6 b7 gv mask n (w.setCell ⟨b7, 0, none⟩ (.int .i64 n)) := by
  obtain ⟨o1, o2, o3, o4⟩ := h.o
  have gs := grownBy_setCell w b7 0 (.int .i64 n)
  exact ⟨h.g.kept gs (by simp; omega), h.m.kept gs (by simp; omega), h.r.kept gs (by simp; omega), h.t.stored 0 _, h.b.setCell (by show w0.heap.size ≤ b7; omega) _, h.o⟩
theorem Bx.ret {w0 : World} {b3 b4 b6 b7 : Nat} {gv : Value} {mask : Int} {tot : Nat} {w : World} (h : Bx w0 b3 b4 b6 b7 gv mask tot w) (v : Value) : Below w0.heap.size w0 (w.setCell ⟨b6, 0, none⟩ v) ∧ (w.setCell ⟨b6, 0, none⟩ v).cell? ⟨b6, 0, none⟩ = some v := by
  obtain ⟨o1, o2, o3, o4⟩ := h.o
  exact ⟨h.b.setCell (by show w0.heap.size ≤ b6; omega) _, (h.r.stored 0 v).cell 0⟩
theorem res4 (tmps : Array Value) (w : World) (g : Nat) (v : Bool) (hp : tmps.getD 6 undef = .pointer (some ⟨g, 0, none⟩)) (hc : w.cell? ⟨g, 0, none⟩ = some (.bool v)) : (results Yba.f4 tmps).run Yba.prog w = .ok (.bool v) w := by
  have hp' : tmps[6]?.getD undef = .pointer (some ⟨g, 0, none⟩) := by simpa using hp
  simp only [results, Yba.results4, hp', asAddr]
  go_simp

set_option maxHeartbeats 2000000 in
set_option maxRecDepth 100000 in
theorem served_long (a : Option Addr) (n c : Nat) (mask stop : Int) (w : World) (h : 256 < n) :
    Calls Yba.prog 4 #[.slice a n c, .int .u8 mask, .int .u16 stop] w fun e w' => e = .returned (.bool true) ∧ Below w.heap.size w w' := by
  have h' : (256 : Int) < (n : Int) := by omega
  go_enter Yba.func4, Yba.ntmps4
  go_wp2
  have hb := Blk.new ((w.alloc (.cells #[.slice a n c] 38)).alloc (.cells #[.int .u8 mask] 5)) 4 [.bool true]
  rw [World.size_alloc, World.size_alloc] at hb
  refine bodyPost_ret (res4 _ _ (w.heap.size + 1 + 1) true rfl (hb.cell 0)) rfl ?_
  exact ⟨rfl, (((Below.refl _ w).alloc (Nat.le_refl _) _).alloc (by simp) _).alloc (by simp; omega) _⟩
end Go.Proofs.Ybulkadpk
