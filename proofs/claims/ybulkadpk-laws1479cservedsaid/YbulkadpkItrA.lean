import Derived.Test.YbulkadpkChk
import Derived.Test.YbulkadpkRng
import Derived.RangeFuncNested
import Derived.RangeFuncBound
import Derived.TacticsInMore
import Derived.OwnWalkIn
import Derived.LoopNIn
import Derived.LoopIn
namespace Go.Proofs.Ybulkadpk
open Go.RowKit Go.QuietTail Go.CountedRange
set_option linter.unusedVariables false
set_option linter.unusedSimpArgs false

structure Zf where
  k : Int
  c : Bool
  M : List (List Int)
def FamsL (lo hi : Nat) (w : World) (v : Value) (F : List Zf) : Prop := SubL lo hi w v 6 (fun (z : Zf) (mv : Value) => famC (nmB z.k) (tyB z.c) false mv) (fun _ mv z => MetsL lo hi w mv z.M) F
def GrpsL (lo hi : Nat) (w : World) (v : Value) (G : List (List Zf)) : Prop := SubL lo hi w v 2 (fun (_ : List Zf) (x : Value × Value) => [x.1, x.2]) (fun j x g => (∃ p c, x.1 = .slice p (j % 3) c) ∧ FamsL lo hi w x.2 g) G
theorem FamsL.kept {lo hi lo' hi' : Nat} {w w' : World} {v : Value} {F : List Zf} (h : FamsL lo hi w v F) (hk : Keep lo hi w w') (hl : lo' ≤ lo) (hh : hi ≤ hi') : FamsL lo' hi' w' v F := SubL.kept h hk hl hh (fun _ _ _ h => h.kept hk hl hh)
theorem GrpsL.kept {lo hi lo' hi' : Nat} {w w' : World} {v : Value} {G : List (List Zf)} (h : GrpsL lo hi w v G) (hk : Keep lo hi w w') (hl : lo' ≤ lo) (hh : hi ≤ hi') : GrpsL lo' hi' w' v G := SubL.kept h hk hl hh (fun _ _ _ h => ⟨h.1, h.2.kept hk hl hh⟩)

/-- What a round is handed. -/
def Given (G : List (List Zf)) (mask : Int) (i : Nat) (kv pv : Value) (W : World) : Prop :=
  ∃ j g f z, G[j]? = some g ∧ g[f]? = some z ∧ i = (G.take j).flatten.length + f ∧ (∃ p c, kv = .slice p (j % 3) c) ∧
    ∃ b n cap cs q qc, pv = .slice (some ⟨b, 0, none⟩) n cap ∧ b < W.heap.size ∧ (∀ t u, cs[t]? = some u → W.cell? ⟨b, t, none⟩ = some u) ∧ PartC z.c (bitOf mask z.k) z.k (.slice q z.M.length qc) z.M n cs
theorem cell_loop {W : World} {l t : Nat} {r : Loop} (h : W.heap[l]? = some (.loop r)) : W.cell? ⟨l, t, none⟩ = none := by
  simp [World.cell?, h]
theorem Given.put {G : List (List Zf)} {mask : Int} (i : Nat) (kv pv : Value) (A : World) (l : Nat) (r : Loop) (o' : Obj) (h : Given G mask i kv pv A) (hl : A.heap[l]? = some (.loop r)) : Given G mask i kv pv (A.putObj l o') := by
  obtain ⟨j, g, f, z, h1, h2, h3, h4, b, n, cap, cs, q, qc, h5, h6, h7, h8⟩ := h
  refine ⟨j, g, f, z, h1, h2, h3, h4, b, n, cap, cs, q, qc, h5, by simpa [World.putObj] using h6, fun t u ht => ?_, h8⟩
  have hne : b ≠ l := fun e => by
    subst e
    have := h7 t u ht
    rw [cell_loop hl] at this
    cases this
  rw [World.cell?_of_block (w := A) (World.putObj_heap_other hne)]
  exact h7 t u ht

/-- What the iterator reads. -/
structure Src (H pb sb sB m : Nat) (mask : Int) (pv : Value) (G : List (List Zf)) (w : World) : Prop where
  p : Blk w pb 69 [pv]
  s : Blk w sb 46 [.pointer (some ⟨sB, 0, none⟩)]
  st : w.cell? ⟨sB, 13, none⟩ = some (.map (some m))
  mp : SplitMap w m mask
  gr : GrpsL 0 H w pv G
theorem Src.keep {H pb sb sB m : Nat} {mask : Int} {pv : Value} {G : List (List Zf)} {w w' : World} (h : Src H pb sb sB m mask pv G w) (hs : sB < H) (hm : m < H) (hk : ∀ k, (k < H ∨ k = pb ∨ k = sb) → w'.heap[k]? = w.heap[k]?) : Src H pb sb sB m mask pv G w' := by
  refine ⟨⟨(hk pb (.inr (.inl rfl))).trans h.p.h⟩, ⟨(hk sb (.inr (.inr rfl))).trans h.s.h⟩, ?_, ?_, h.gr.kept (fun k _ hk' => hk k (.inl hk')) (Nat.le_refl _) (Nat.le_refl _)⟩
  · rw [World.cell?_of_block (w := w) (hk sB (.inl hs))]; exact h.st
  · obtain ⟨n, D, ⟨es, clock, h1, h2⟩, h3⟩ := h.mp
    exact ⟨n, D, ⟨es, clock, (hk m (.inl hm)).trans h1, h2⟩, h3⟩
theorem own_zero {w : World} {B e sz n : Nat} {v : Value} {cs : List Value} (h : w.ownsRow B e sz v n cs) : (v = .slice none 0 0 ∧ n = 0) ∨ ∃ g cap, v = .slice (some ⟨g, 0, none⟩) n cap ∧ B ≤ g ∧ g < w.heap.size ∧ w.ownsRow B e sz (.slice (some ⟨g, 0, none⟩) 0 cap) 0 [] := by
  rcases h.2 with ⟨h1, h2⟩ | ⟨g, cap, cur, h1, h2, h3, h4, h5, h6, h7⟩
  · exact .inl ⟨h1, h2⟩
  · exact .inr ⟨g, cap, h1, h2, (Array.getElem?_eq_some_iff.1 h3).1, by simp, .inr ⟨g, cap, cur, rfl, h2, h3, Nat.zero_le _, h5, h6, by simp⟩⟩
theorem flat_take_succ {α : Type} {G : List (List α)} {j : Nat} {g : List α} (h : G[j]? = some g) : (G.take (j + 1)).flatten.length = (G.take j).flatten.length + g.length := by
  rw [List.take_add_one, h]; simp
theorem flat_take_le {α : Type} (G : List (List α)) (j : Nat) : (G.take j).flatten.length ≤ G.flatten.length := by
  have h3 : G.flatten = (G.take j).flatten ++ (G.drop j).flatten := by rw [← List.flatten_append, List.take_append_drop]
  rw [h3, List.length_append]
  omega
end Go.Proofs.Ybulkadpk
