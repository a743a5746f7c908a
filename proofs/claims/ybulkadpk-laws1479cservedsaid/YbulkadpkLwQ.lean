import Derived.Test.YbulkadpkLwP
import Derived.Laws.Cover2
import Derived.Deep.RegionHeld3
import Derived.Shelf.Abstract
import Derived.Shelf.RegionOpen
namespace Go.Proofs.Ybulkadpk
open Go.RowKit Go.QuietTail Go.CountedRange
set_option linter.unusedVariables false
set_option linter.unusedSimpArgs false

def ints (l : List Int) : List Value := l.map (fun x => .int .i64 x)
theorem own_block {w w' : World} {B e sz n g c : Nat} {cs : List Value} (h : w.ownsRow B e sz (.slice (some ⟨g, 0, none⟩) n c) n cs) (he : w'.heap[g]? = w.heap[g]?) : w'.ownsRow B e sz (.slice (some ⟨g, 0, none⟩) n c) n cs := by
  obtain ⟨h1, h2⟩ := h
  refine ⟨h1, ?_⟩
  rcases h2 with ⟨h2, _⟩ | ⟨g', cap, cur, h2, h3, h4, h5⟩
  · cases h2
  · cases h2
    exact .inr ⟨g, c, cur, rfl, h3, he.trans h4, h5⟩
/-- What stands while the pushes are built. -/
structure Fx (w0 : World) (b4 b6 b7 mb sB rp rg bg rf bf : Nat) (gv : Value) (mask : Int) (tot : Nat) (gl fl : List Int) (w : World) : Prop where
  bx : Bx w0 w0.heap.size b4 b6 b7 gv mask tot w
  mp : SplitMap w mb mask
  st : w.cell? ⟨sB, 13, none⟩ = some (.map (some mb))
  gr : w.ownsRow 0 3 1 (.slice (some ⟨rg, 0, none⟩) gl.length tot) gl.length (ints gl)
  gb : Blk w bg 70 [.slice (some ⟨rg, 0, none⟩) gl.length tot]
  fr : w.ownsRow 0 3 1 (.slice (some ⟨rf, 0, none⟩) fl.length tot) fl.length (ints fl)
  fb : Blk w bf 70 [.slice (some ⟨rf, 0, none⟩) fl.length tot]
  o : b7 < mb ∧ mb < sB ∧ sB < rp ∧ rp < rg ∧ rg < bg ∧ bg < rf ∧ rf < bf
theorem Fx.any {w0 : World} {b4 b6 b7 mb sB rp rg bg rf bf : Nat} {gv : Value} {mask : Int} {tot : Nat} {gl fl : List Int} {w w' : World} (h : Fx w0 b4 b6 b7 mb sB rp rg bg rf bf gv mask tot gl fl w)
    (hg : ∀ k, k ≤ bf → k ≠ rp → w'.heap[k]? = w.heap[k]?) (h1 : w'.os = w.os) (h2 : w'.tape = w.tape) (h3 : w'.output = w.output) (hs : w.heap.size ≤ w'.heap.size) : Fx w0 b4 b6 b7 mb sB rp rg bg rf bf gv mask tot gl fl w' := by
  obtain ⟨o1, o2, o3, o4, o5, o6, o7⟩ := h.o
  obtain ⟨p1, p2, p3, p4⟩ := h.bx.o
  have bk : ∀ {g t cs}, Blk w g t cs → g ≤ bf → g ≠ rp → Blk w' g t cs := fun hb h1 h2 => ⟨(hg _ h1 h2).trans hb.h⟩
  refine ⟨⟨bk h.bx.g (by omega) (by omega), bk h.bx.m (by omega) (by omega), bk h.bx.r (by omega) (by omega), bk h.bx.t (by omega) (by omega), ⟨h1.trans h.bx.b.os, h2.trans h.bx.b.tape, h3.trans h.bx.b.output, Nat.le_trans h.bx.b.size hs, fun k hk => (hg k (by omega) (by omega)).trans (h.bx.b.block k hk)⟩, h.bx.o⟩, ?_, ?_, own_block h.gr (hg _ (by omega) (by omega)), bk h.gb (by omega) (by omega), own_block h.fr (hg _ (by omega) (by omega)), bk h.fb (by omega) (by omega), h.o⟩
  · obtain ⟨n, D, ⟨es, clock, k1, k2⟩, k3⟩ := h.mp
    exact ⟨n, D, ⟨es, clock, (hg mb (by omega) (by omega)).trans k1, k2⟩, k3⟩
  · rw [World.cell?_of_block (w := w) (hg sB (by omega) (by omega))]; exact h.st
theorem Fx.below {w0 : World} {b4 b6 b7 mb sB rp rg bg rf bf : Nat} {gv : Value} {mask : Int} {tot : Nat} {gl fl : List Int} {w w' : World} {n : Nat} (h : Fx w0 b4 b6 b7 mb sB rp rg bg rf bf gv mask tot gl fl w)
    (hb : Below n w w') (hn : bf < n) : Fx w0 b4 b6 b7 mb sB rp rg bg rf bf gv mask tot gl fl w' := h.any (fun k hk _ => hb.block k (by omega)) hb.os hb.tape hb.output hb.size
theorem Fx.grown {w0 : World} {b4 b6 b7 mb sB rp rg bg rf bf : Nat} {gv : Value} {mask : Int} {tot : Nat} {gl fl : List Int} {w w' : World} {r : Nat} (h : Fx w0 b4 b6 b7 mb sB rp rg bg rf bf gv mask tot gl fl w)
    (hb : w.grownBy w' (some r)) (hn : r = rp ∨ bf < r) : Fx w0 b4 b6 b7 mb sB rp rg bg rf bf gv mask tot gl fl w' :=
  h.any (fun k hk hr => hb.block k (Nat.lt_of_le_of_lt hk h.fb.lt) (by simp; omega)) hb.os hb.tape hb.output hb.size
theorem Fx.pushG {w0 : World} {b4 b6 b7 mb sB rp rg bg rf bf : Nat} {gv : Value} {mask : Int} {tot : Nat} {gl fl : List Int} {w w1 : World} {x : Int} (h : Fx w0 b4 b6 b7 mb sB rp rg bg rf bf gv mask tot gl fl w)
    (hO : w1.ownsRow 0 3 1 (.slice (some ⟨rg, 0, none⟩) (gl.length + 1) tot) (gl.length + 1) (ints gl ++ [.int .i64 x])) (hG : w.grownBy w1 (some rg)) :
    Fx w0 b4 b6 b7 mb sB rp rg bg rf bf gv mask tot (gl ++ [x]) fl (w1.setCell ⟨bg, 0, none⟩ (.slice (some ⟨rg, 0, none⟩) (gl.length + 1) tot)) := by
  obtain ⟨o1, o2, o3, o4, o5, o6, o7⟩ := h.o
  obtain ⟨p1, p2, p3, p4⟩ := h.bx.o
  have gs := grownBy_setCell w1 bg 0 (.slice (some ⟨rg, 0, none⟩) (gl.length + 1) tot)
  have hlt : ∀ k, k ≤ bf → k < w.heap.size := fun k hk => Nat.lt_of_le_of_lt hk h.fb.lt
  have hg : ∀ k, k ≤ bf → k ≠ rg → k ≠ bg → (w1.setCell ⟨bg, 0, none⟩ (.slice (some ⟨rg, 0, none⟩) (gl.length + 1) tot)).heap[k]? = w.heap[k]? := fun k h1 h2 h3 =>
    (gs.block k (Nat.lt_of_lt_of_le (hlt k h1) hG.size) (by simp; omega)).trans (hG.block k (hlt k h1) (by simp; omega))
  have bk : ∀ {g t cs}, Blk w g t cs → g ≤ bf → g ≠ rg → g ≠ bg → Blk (w1.setCell ⟨bg, 0, none⟩ (.slice (some ⟨rg, 0, none⟩) (gl.length + 1) tot)) g t cs := fun hb h1 h2 h3 => ⟨(hg _ h1 h2 h3).trans hb.h⟩
  refine ⟨⟨bk h.bx.g (by omega) (by omega) (by omega), bk h.bx.m (by omega) (by omega) (by omega), bk h.bx.r (by omega) (by omega) (by omega), bk h.bx.t (by omega) (by omega) (by omega), (h.bx.b.grown hG h.bx.b.size (fun k e => by cases e; omega)).setCell (by show w0.heap.size ≤ bg; omega) _, h.bx.o⟩, ?_, ?_, ?_, ?_, own_block h.fr (hg _ (by omega) (by omega) (by omega)), bk h.fb (by omega) (by omega) (by omega), h.o⟩
  · obtain ⟨n, D, ⟨es, clock, k1, k2⟩, k3⟩ := h.mp
    exact ⟨n, D, ⟨es, clock, (hg mb (by omega) (by omega) (by omega)).trans k1, k2⟩, k3⟩
  · rw [World.cell?_of_block (w := w) (hg sB (by omega) (by omega) (by omega))]; exact h.st
  · have := own_block hO (w' := w1.setCell ⟨bg, 0, none⟩ (.slice (some ⟨rg, 0, none⟩) (gl.length + 1) tot)) (gs.block rg (Nat.lt_of_lt_of_le (hlt rg (by omega)) hG.size) (by simp; omega))
    simpa [ints] using this
  · have := (h.gb.kept hG (by simp; omega)).stored 0 (.slice (some ⟨rg, 0, none⟩) (gl.length + 1) tot)
    simpa using this
theorem Fx.pushF {w0 : World} {b4 b6 b7 mb sB rp rg bg rf bf : Nat} {gv : Value} {mask : Int} {tot : Nat} {gl fl : List Int} {w w1 : World} {x : Int} (h : Fx w0 b4 b6 b7 mb sB rp rg bg rf bf gv mask tot gl fl w)
    (hO : w1.ownsRow 0 3 1 (.slice (some ⟨rf, 0, none⟩) (fl.length + 1) tot) (fl.length + 1) (ints fl ++ [.int .i64 x])) (hG : w.grownBy w1 (some rf)) :
    Fx w0 b4 b6 b7 mb sB rp rg bg rf bf gv mask tot gl (fl ++ [x]) (w1.setCell ⟨bf, 0, none⟩ (.slice (some ⟨rf, 0, none⟩) (fl.length + 1) tot)) := by
  obtain ⟨o1, o2, o3, o4, o5, o6, o7⟩ := h.o
  obtain ⟨p1, p2, p3, p4⟩ := h.bx.o
  have gs := grownBy_setCell w1 bf 0 (.slice (some ⟨rf, 0, none⟩) (fl.length + 1) tot)
  have hlt : ∀ k, k ≤ bf → k < w.heap.size := fun k hk => Nat.lt_of_le_of_lt hk h.fb.lt
  have hg : ∀ k, k ≤ bf → k ≠ rf → k ≠ bf → (w1.setCell ⟨bf, 0, none⟩ (.slice (some ⟨rf, 0, none⟩) (fl.length + 1) tot)).heap[k]? = w.heap[k]? := fun k h1 h2 h3 =>
    (gs.block k (Nat.lt_of_lt_of_le (hlt k h1) hG.size) (by simp; omega)).trans (hG.block k (hlt k h1) (by simp; omega))
  have bk : ∀ {g t cs}, Blk w g t cs → g ≤ bf → g ≠ rf → g ≠ bf → Blk (w1.setCell ⟨bf, 0, none⟩ (.slice (some ⟨rf, 0, none⟩) (fl.length + 1) tot)) g t cs := fun hb h1 h2 h3 => ⟨(hg _ h1 h2 h3).trans hb.h⟩
  refine ⟨⟨bk h.bx.g (by omega) (by omega) (by omega), bk h.bx.m (by omega) (by omega) (by omega), bk h.bx.r (by omega) (by omega) (by omega), bk h.bx.t (by omega) (by omega) (by omega), (h.bx.b.grown hG h.bx.b.size (fun k e => by cases e; omega)).setCell (by show w0.heap.size ≤ bf; omega) _, h.bx.o⟩, ?_, ?_, own_block h.gr (hg _ (by omega) (by omega) (by omega)), bk h.gb (by omega) (by omega) (by omega), ?_, ?_, h.o⟩
  · obtain ⟨n, D, ⟨es, clock, k1, k2⟩, k3⟩ := h.mp
    exact ⟨n, D, ⟨es, clock, (hg mb (by omega) (by omega) (by omega)).trans k1, k2⟩, k3⟩
  · rw [World.cell?_of_block (w := w) (hg sB (by omega) (by omega) (by omega))]; exact h.st
  · have := own_block hO (w' := w1.setCell ⟨bf, 0, none⟩ (.slice (some ⟨rf, 0, none⟩) (fl.length + 1) tot)) (gs.block rf (Nat.lt_of_lt_of_le (hlt rf (by omega)) hG.size) (by simp; omega))
    simpa [ints] using this
  · have := (h.fb.kept hG (by simp; omega)).stored 0 (.slice (some ⟨rf, 0, none⟩) (fl.length + 1) tot)
    simpa using this

/-- The groups' numbers, family by family; the families' numbers within their groups. -/
def gis (G : List (List Zf)) : Nat → List Int
  | 0 => []
  | j + 1 => gis G j ++ List.replicate (G.getD j []).length (j : Int)
def fis (G : List (List Zf)) : Nat → List Int
  | 0 => []
  | j + 1 => fis G j ++ (List.range (G.getD j []).length).map (fun (x : Nat) => (x : Int))
theorem gis_len (G : List (List Zf)) : ∀ j, j ≤ G.length → (gis G j).length = (G.take j).flatten.length
  | 0, _ => by simp [gis]
  | j + 1, h => by
    have hg : G[j]? = some (G.getD j []) := by rw [List.getD_eq_getElem?_getD, List.getElem?_eq_getElem (by omega)]; rfl
    rw [gis, List.length_append, gis_len G j (by omega), flat_take_succ hg, List.length_replicate]
theorem fis_len (G : List (List Zf)) : ∀ j, j ≤ G.length → (fis G j).length = (G.take j).flatten.length
  | 0, _ => by simp [fis]
  | j + 1, h => by
    have hg : G[j]? = some (G.getD j []) := by rw [List.getD_eq_getElem?_getD, List.getElem?_eq_getElem (by omega)]; rfl
    rw [fis, List.length_append, fis_len G j (by omega), flat_take_succ hg]
    simp
theorem gis_at (G : List (List Zf)) (j f : Nat) (g : List Zf) (hj : G[j]? = some g) (hf : f < g.length) : ∀ n, j < n → n ≤ G.length → (gis G n)[(G.take j).flatten.length + f]? = some (j : Int) ∧ (fis G n)[(G.take j).flatten.length + f]? = some (f : Int)
  | 0, h, _ => by omega
  | n + 1, h, hn => by
    by_cases e : j = n
    · subst e
      have hd : G.getD j [] = g := by rw [List.getD_eq_getElem?_getD, hj]; rfl
      rw [gis, fis, hd]
      have h1 := gis_len G j (by omega)
      have h2 := fis_len G j (by omega)
      constructor
      · rw [List.getElem?_append_right (by omega), h1]
        simp [List.getElem?_replicate, hf]
      · rw [List.getElem?_append_right (by omega), h2]
        simp [hf]
    · obtain ⟨h1, h2⟩ := gis_at G j f g hj hf n (by omega) (by omega)
      have k1 := (List.getElem?_eq_some_iff.1 h1).1
      have k2 := (List.getElem?_eq_some_iff.1 h2).1
      rw [gis, fis, List.getElem?_append_left k1, List.getElem?_append_left k2]
      exact ⟨h1, h2⟩

/-- append within the capacity onto a row of the call's own, as one step of a region that draws. -/
theorem step_append_fits {P : Program} {ops : Array Oper} {o : Oper} {a : Act} {w : World} {K : Act → World → Prop} {Q : Exit → Act → World → Prop} {E : Prop}
    (hg : o.guard = none) (s x : Operand) (t : TypeId) (hop : o.op = Op.call { callee := Callee.builtin Builtin.append, args := #[s, x], argTypes := #[t, t] })
    (base : Nat) (e : TypeId) (i : TypeInfo) (size : Nat) (h1 : P.underlying t = some (.slice e)) (h2 : P.info? e = some i) (h4 : i.size = size)
    (g k cap : Nat) (xs : List Value) (hs : a.eval s = .slice (some ⟨g, 0, none⟩) k cap) (hown : w.ownsRow base e size (.slice (some ⟨g, 0, none⟩) k cap) k xs) (ad : Addr) (m c : Nat) (news : List Value) (hx : a.eval x = .slice (some ad) m c) (hn : news.length = m * size)
    (hc : ∀ j u, news[j]? = some u → w.cell? (ad.add j) = some u) (h1c : ∀ u ∈ news, u.oneCell' = true) (b1 : k + m ≤ cap)
    (hK : ∀ w', w'.ownsRow base e size (.slice (some ⟨g, 0, none⟩) (k + m) cap) (k + m) (xs ++ news) → w.grownBy w' (some g) → K (a.put o.dst (.slice (some ⟨g, 0, none⟩) (k + m) cap)) w') :
    if Region.wanted o (yielded ops a.tmps) = true then Oper.wp P o a w K Q else E := by
  have hw : Region.wanted o (yielded ops a.tmps) = true := by simp [Region.wanted, hg]
  rw [if_pos hw]
  obtain ⟨w', hrun, r1, r2⟩ := run_append_fits (P := P) w base t o.type e i size h1 h2 h4 g k cap xs hown ad m c news hn hc h1c b1
  unfold Oper.wp
  simp [execOp, hop, resolve, invoke, builtin, hs, hx, hrun, Result.andThen]
  exact hK w' r1 r2
theorem info36 : (Yba.prog.info? 36).map (fun i => (i.zero, i.size, i.bytes)) = some (some (.agg #[.string ByteArray.empty, .string ByteArray.empty]), 2, 32) := by kernel_rfl
theorem calls_of_wp_marks {P : Program} {f : FuncId} {fn : Func} {c : Code} {args : Array Value} {w : World} {R : Ending → World → Prop} (hf : P.funcs[f]? = some fn) (hb : fn.body = some c)
    (h : c.wp P (bodyPostM Fence.wide 0 P fn R) { tmps := args ++ Array.replicate (fn.ntmps - args.size) undef, defers := [] } w) : Calls P f args w R :=
  callsIn_wide.1 (callsIn_of_wp_marks (F := Fence.wide) (n := 0) hf hb trivial (wpIn_wide.2 h) rfl)
theorem wp_rangeUpd {P : Program} {g : Operand} {ps : Array Tmp} {assign body : Code} {Q : Exit → Act → World → Prop} {a : Act} {w : World}
    (upd : Value → Value → Array Value → Array Value) {gf : Nat} {lb : Array Value} (hg : a.eval g = .func (.func gf) #[] lb) (eg : ∀ args w, (callFunc gf args).run P w = .ok (.enter gf args) w)
    (N bc : Nat) (hbc : bc < w.heap.size) (Given : Nat → Value → Value → World → Prop)
    (hGiven : ∀ i kv pv A l r o', Given i kv pv A → A.heap[l]? = some (.loop r) → Given i kv pv (A.putObj l o'))
    (hseq : ∀ (l : Nat) (J Jx : Nat → World → Prop) (W : World), W.heap.size = w.heap.size + 2 → Below w.heap.size w W → (∀ i A B, J i A → Below W.heap.size A B → J i B) →
      (∀ i kv pv W1, J i W1 → i < N → Given i kv pv W1 → YieldAt Fence.wide 0 P l #[kv, pv] W1 fun e W' =>
        (e = .returned (.bool true) ∧ J (i + 1) W' ∧ KeepX (fun k => k = bc ∨ k = w.heap.size ∨ k = w.heap.size + 1) W1 W') ∨ (e = .returned (.bool false) ∧ Jx (i + 1) W')) →
      J 0 W → Calls P gf (#[.func (.yield l) #[] #[]] ++ lb) W fun e W' => (∃ v, e = .returned v) ∧ (J N W' ∨ ∃ i, i ≤ N ∧ Jx i W'))
    (hps : ps.size = 2)
    (I : Nat → World → Prop) (Ix : Code → Nat → World → Prop) (hI : ∀ i A B, I i A → Below w.heap.size A B → I i B) (hIx : ∀ c i A B, Ix c i A → Below w.heap.size A B → Ix c i B) (h0 : I 0 w)
    (hassign : ∀ (l : Nat) (kv pv : Value) (W : World) (K : Act → World → Prop), K { tmps := upd kv pv a.tmps, defers := [] } W →
      assign.wpIn (Fence.wide.inRound l) 0 P (Exit.then K (fun _ _ _ => False)) { tmps := (ps.zip #[kv, pv]).foldl (fun t (p, v) => t.setIfInBounds p v) a.tmps, defers := [] } W)
    (hbody : ∀ (l : Nat) (i : Nat) (kv pv : Value) (W : World), I i W → i < N → Given i kv pv W → body.wpIn (Fence.wide.inRound l) 0 P (postX bc I Ix (i + 1) W) { tmps := upd kv pv a.tmps, defers := [] } W)
    (hdone : ∀ (W : World), I N W → W.heap[w.heap.size]? = some (.deferred (some [])) → Q .normal { a with defers := { target := .collected w.heap.size, args := #[] } :: a.defers } W)
    (hstop : ∀ (c : Code) (i : Nat) (W : World), i ≤ N → Ix c i W → W.heap[w.heap.size]? = some (.deferred (some [])) → c.wp P Q { a with defers := { target := .collected w.heap.size, args := #[] } :: a.defers } W) :
    (Code.rangeFunc g ps assign body).wp P Q a w :=
  wp_rangeCounted hg eg N bc hbc Given hGiven hseq hps I Ix hI hIx h0 (fun kv pv => { tmps := upd kv pv a.tmps, defers := [] }) hassign hbody hdone hstop
theorem check_at (c : Bool) (k mask : Int) (q : Option Addr) (qc : Nat) (M : List (List Int)) (mp : Option Addr) (mc : Nat) (g n pc : Nat) (cs : List Value) (w : World) (hk0 : 0 ≤ k) (hk1 : k ≤ 255) (hm0 : 0 ≤ mask) (hm1 : mask ≤ 255)
    (hM : InMets 0 w.heap.size w (.slice mp M.length mc) M) (hl : M.flatten.length ≤ 4096) (hml : M.length ≤ 4096) (hg : g < w.heap.size) (hc : ∀ j u, cs[j]? = some u → w.cell? ⟨g, j, none⟩ = some u) (hP : PartC c (bitOf mask k) k (.slice q M.length qc) M n cs) :
    Calls Yba.prog 13 #[.agg #[.int .u8 k, .bool c, .slice mp M.length mc], .int .u8 mask, .slice (some ⟨g, 0, none⟩) n pc] w fun e w' => e = .returned (.bool true) ∧ Below w.heap.size w w' := by
  cases h : (c && bitOf mask k) with
  | true =>
    have h1 : c = true ∧ bitOf mask k = true := by simpa using h
    obtain ⟨rfl, h2⟩ := h1
    rw [h2] at hP
    exact check_split k mask _ M mp mc g n pc cs w hk0 hk1 hm0 hm1 hM hl hml h2 hg hc hP
  | false =>
    unfold PartC at hP
    rw [h, if_neg (by decide)] at hP
    obtain ⟨rfl, rfl⟩ := hP
    exact check_plain c k mask M mp mc q qc g pc w hk0 hk1 hm0 hm1 hml h hg hc
theorem fin4 (w W : World) (D b6 : Nat) (tmps : Array Value) (hp : tmps.getD 6 undef = .pointer (some ⟨b6, 0, none⟩)) (hc : W.cell? ⟨b6, 0, none⟩ = some (.bool true)) (hK : W.heap[D]? = some (.deferred (some []))) (hb : Below w.heap.size w W) (hD : w.heap.size ≤ D) (hne : b6 ≠ D) :
    bodyPostM Fence.wide 0 Yba.prog Yba.f4 (fun e w' => e = .returned (.bool true) ∧ Below w.heap.size w w') .ret { tmps := tmps, defers := [{ target := .collected D, args := #[] }] } W := by
  refine ⟨by simp, .inl ⟨_, _, rfl, run_takeDeferred hK, ?_⟩⟩
  refine ⟨_, res4 _ _ b6 true hp ?_, rfl, ?_⟩
  · rw [World.cell?_of_block (w := W) (World.putObj_heap_other hne)]
    exact hc
  · exact hb.grown (grownBy_putObj' W D _) hb.size (fun k e => by cases e; exact hD)
def SameX (rp lo gF : Nat) (W w : World) : Prop := ∀ k, (k = rp ∨ (lo ≤ k ∧ k < gF)) → w.heap[k]? = W.heap[k]?
theorem SameX.refl (rp lo gF : Nat) (W : World) : SameX rp lo gF W W := fun _ _ => rfl
/-! What has been built: groups, families, metrics, samples. -/
def rowsG (ps : List (List Zf × (Value × Value))) : List Value := (ps.map fun p => [p.2.1, p.2.2]).flatten
def DGrp (lo : Nat) (w : World) (ps : List (List Zf × (Value × Value))) : Prop := ∀ (i : Nat) (p : List Zf × (Value × Value)), ps[i]? = some p → (∃ q r, p.2.1 = Value.slice q (i % 3) r) ∧ FamsL lo w.heap.size w p.2.2 p.1
def rowsF (ps : List (Zf × Value)) : List Value := (ps.map fun p => famC (nmB p.1.k) (tyB p.1.c) false p.2).flatten
def DFam (lo : Nat) (w : World) (ps : List (Zf × Value)) : Prop := ∀ (i : Nat) (p : Zf × Value), ps[i]? = some p → MetsL lo w.heap.size w p.2 p.1.M
def rowsM (ps : List (List Int × Value)) : List Value := (ps.map fun p => metC p.1 p.2).flatten
def DMet (lo : Nat) (w : World) (ps : List (List Int × Value)) : Prop := ∀ (i : Nat) (p : List Int × Value), ps[i]? = some p → SampsL lo w.heap.size w p.2 p.1
def rowsS (ps : List (Int × Nat)) : List Value := (ps.map fun p => smpC p.1 p.2).flatten
theorem DGrp.kept {lo : Nat} {w w' : World} {ps : List (List Zf × (Value × Value))} (h : DGrp lo w ps) (hk : Keep lo w.heap.size w w') (hs : w.heap.size ≤ w'.heap.size) : DGrp lo w' ps := fun i p hp => ⟨(h i p hp).1, (h i p hp).2.kept hk (Nat.le_refl _) hs⟩
theorem DFam.kept {lo : Nat} {w w' : World} {ps : List (Zf × Value)} (h : DFam lo w ps) (hk : Keep lo w.heap.size w w') (hs : w.heap.size ≤ w'.heap.size) : DFam lo w' ps := fun i p hp => (h i p hp).kept hk (Nat.le_refl _) hs
theorem DMet.kept {lo : Nat} {w w' : World} {ps : List (List Int × Value)} (h : DMet lo w ps) (hk : Keep lo w.heap.size w w') (hs : w.heap.size ≤ w'.heap.size) : DMet lo w' ps := fun i p hp => (h i p hp).kept hk (Nat.le_refl _) hs
theorem snoc_get {α : Type} {ps : List α} {x p : α} {i : Nat} (h : (ps ++ [x])[i]? = some p) : ps[i]? = some p ∨ (i = ps.length ∧ p = x) := by
  rcases Nat.lt_or_ge i ps.length with h1 | h1
  · rw [List.getElem?_append_left h1] at h; exact .inl h
  · rw [List.getElem?_append_right h1] at h
    have h2 : i - ps.length = 0 := by
      have := (List.getElem?_eq_some_iff.1 h).1
      simp at this
      omega
    rw [h2] at h
    simp at h
    exact .inr ⟨by omega, h.symm⟩
theorem DGrp.snoc {lo : Nat} {w : World} {ps : List (List Zf × (Value × Value))} {x : List Zf × (Value × Value)} (h : DGrp lo w ps) (h1 : ∃ q r, x.2.1 = Value.slice q (ps.length % 3) r) (h2 : FamsL lo w.heap.size w x.2.2 x.1) : DGrp lo w (ps ++ [x]) := fun i p hp => by
  rcases snoc_get hp with h3 | ⟨rfl, rfl⟩
  · exact h i p h3
  · exact ⟨h1, h2⟩
theorem DFam.snoc {lo : Nat} {w : World} {ps : List (Zf × Value)} {x : Zf × Value} (h : DFam lo w ps) (h2 : MetsL lo w.heap.size w x.2 x.1.M) : DFam lo w (ps ++ [x]) := fun i p hp => by
  rcases snoc_get hp with h3 | ⟨rfl, rfl⟩
  · exact h i p h3
  · exact h2
theorem DMet.snoc {lo : Nat} {w : World} {ps : List (List Int × Value)} {x : List Int × Value} (h : DMet lo w ps) (h2 : SampsL lo w.heap.size w x.2 x.1) : DMet lo w (ps ++ [x]) := fun i p hp => by
  rcases snoc_get hp with h3 | ⟨rfl, rfl⟩
  · exact h i p h3
  · exact h2
/-- A row of one's own, read as a slice of rows. -/
theorem own_slice {w : World} {B e sz n g c lo : Nat} {L : List (List Value)} (h : w.ownsRow B e sz (.slice (some ⟨g, 0, none⟩) n c) n L.flatten) (hn : L.length = n) (hL : ∀ r ∈ L, r.length = sz) (hlo : lo ≤ g) : SliceL lo w.heap.size w (.slice (some ⟨g, 0, none⟩) n c) sz L := by
  subst hn
  refine ⟨_, c, rfl, fun h0 => ⟨g, 0, rfl, hlo, (h.lt g rfl).2, fun j row t u hj ht => ?_⟩⟩
  have hjl := (List.getElem?_eq_some_iff.1 hj).1
  have hr := hL row (List.mem_of_getElem? hj)
  have htl := (List.getElem?_eq_some_iff.1 ht).1
  have hm : (j + 1) * sz ≤ L.length * sz := Nat.mul_le_mul_right _ hjl
  rw [Nat.add_mul] at hm
  rw [Nat.zero_add, h.cellAt (j * sz + t) (by omega), flatten_at hL hj (by omega)]
  exact ht
theorem samps_done {w : World} {n g c lo : Nat} {ps : List (Int × Nat)} {ms : List Int} (h : w.ownsRow 0 75 6 (.slice (some ⟨g, 0, none⟩) n c) n (rowsS ps)) (hn : ps.length = n) (hm : ps.map Prod.fst = ms) (hlo : lo ≤ g) : SampsL lo w.heap.size w (.slice (some ⟨g, 0, none⟩) n c) ms :=
  ⟨ps, hm, own_slice h (by simpa using hn) (fun r hr => by obtain ⟨p, _, rfl⟩ := List.mem_map.1 hr; rfl) hlo, fun _ _ _ => trivial⟩
theorem mets_done {w : World} {n g c lo : Nat} {ps : List (List Int × Value)} {M : List (List Int)} (h : w.ownsRow 0 30 2 (.slice (some ⟨g, 0, none⟩) n c) n (rowsM ps)) (hn : ps.length = n) (hm : ps.map Prod.fst = M) (hlo : lo ≤ g) (hd : DMet (g + 1) w ps) : MetsL lo w.heap.size w (.slice (some ⟨g, 0, none⟩) n c) M :=
  ⟨ps, hm, own_slice h (by simpa using hn) (fun r hr => by obtain ⟨p, _, rfl⟩ := List.mem_map.1 hr; rfl) hlo, fun i p hp => (hd i p hp).kept (Keep.refl _ _ _) (by omega) (Nat.le_refl _)⟩
theorem fams_done {w : World} {n g c lo : Nat} {ps : List (Zf × Value)} {F : List Zf} (h : w.ownsRow 0 79 6 (.slice (some ⟨g, 0, none⟩) n c) n (rowsF ps)) (hn : ps.length = n) (hm : ps.map Prod.fst = F) (hlo : lo ≤ g) (hd : DFam (g + 1) w ps) : FamsL lo w.heap.size w (.slice (some ⟨g, 0, none⟩) n c) F :=
  ⟨ps, hm, own_slice h (by simpa using hn) (fun r hr => by obtain ⟨p, _, rfl⟩ := List.mem_map.1 hr; rfl) hlo, fun i p hp => (hd i p hp).kept (Keep.refl _ _ _) (by omega) (Nat.le_refl _)⟩
theorem grps_done {w : World} {n g c lo : Nat} {ps : List (List Zf × (Value × Value))} {G : List (List Zf)} (h : w.ownsRow 0 81 2 (.slice (some ⟨g, 0, none⟩) n c) n (rowsG ps)) (hn : ps.length = n) (hm : ps.map Prod.fst = G) (hd : DGrp lo w ps) : GrpsL 0 w.heap.size w (.slice (some ⟨g, 0, none⟩) n c) G :=
  ⟨ps, hm, own_slice h (by simpa using hn) (fun r hr => by obtain ⟨p, _, rfl⟩ := List.mem_map.1 hr; rfl) (Nat.zero_le _), fun i p hp => ⟨(hd i p hp).1, (hd i p hp).2.kept (Keep.refl _ _ _) (Nat.zero_le _) (Nat.le_refl _)⟩⟩
end Go.Proofs.Ybulkadpk
