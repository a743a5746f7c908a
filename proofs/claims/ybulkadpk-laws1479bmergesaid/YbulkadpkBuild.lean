import Derived.Test.YbulkadpkRows
import Derived.Test.YbulkadpkQT
import Derived.WalkKit
import Derived.ProofKit
import Derived.OpenShut
import Derived.Below
import Derived.OwnWalk
import Derived.Deep.QuietTactic
import Derived.BigQuiet
import Derived.Lib.Bytealg
import Derived.Deep.RegionLaw
import Derived.Shelf.Lays
namespace Go.Proofs.Ybulkadpk
open Go.RowKit Go.QuietTail Go.Shelf
set_option linter.unusedVariables false
set_option linter.unusedSimpArgs false

theorem Yba.cells36 : Yba.prog.cellsOf 36 = 2 := by kernel_rfl
theorem Yba.cells30 : Yba.prog.cellsOf 30 = 2 := by kernel_rfl
theorem Yba.cells9 : Yba.prog.cellsOf 9 = 1 := by kernel_rfl

/-- The strings of a slice of strings that came in. -/
def Strs (w : World) (a : Option Addr) (ss : List ByteArray) : Prop :=
  0 < ss.length → ∃ b o, a = some ⟨b, o, none⟩ ∧ ∀ i, i < ss.length → w.cell? ⟨b, o + i, none⟩ = some (.string (ss.getD i ByteArray.empty))

def vl (ss : List ByteArray) (i j : Nat) : ByteArray := if ss.length = 0 then ⟨#[118]⟩ else ss.getD ((i * 8 + j) % ss.length) ByteArray.empty

theorem val_any (a : Option Addr) (ss : List ByteArray) (cap i j : Nat) (w : World) (h : Strs w a ss) (hl : ss.length ≤ 9223372036854775807) (hi : i ≤ 512) (hj : j < 8) :
    Calls Yba.prog 8 #[.slice a ss.length cap, .int .i64 i, .int .i64 j] w fun e w' => e = .returned (.string (vl ss i j)) ∧ w' = w := by
  unfold vl
  by_cases h0 : ss.length = 0
  · rw [if_pos h0, h0]
    go_enter Yba.func8, Yba.ntmps8
    go_wp2
    go_ret
    exact ⟨rfl, rfl⟩
  · rw [if_neg h0]
    obtain ⟨b, o, rfl, hc⟩ := h (Nat.pos_of_ne_zero h0)
    have hlt := Nat.mod_lt (i * 8 + j) (Nat.pos_of_ne_zero h0)
    have hk := hc _ hlt
    have e1 : ((i : Int) * 8 + j).tmod (ss.length : Int) = (((i * 8 + j) % ss.length : Nat) : Int) := by
      rw [show (i : Int) * 8 + j = ((i * 8 + j : Nat) : Int) by simp, Int.ofNat_tmod]
    generalize (i * 8 + j) % ss.length = k at *
    generalize ss.getD k ByteArray.empty = s at *
    have h1 : ((ss.length : Int) == 0) = false := beq_eq_false_iff_ne.mpr (by omega)
    have h2 : ¬ (ss.length : Int) = 0 := by omega
    have h3 : (k : Int) < (ss.length : Int) := by omega
    clear hc
    generalize ss.length = n at *
    go_enter Yba.func8, Yba.ntmps8
    go_wp2
    go_ret
    exact ⟨rfl, rfl⟩

/-- A call of val by its contract, as one step of a region that draws. -/
theorem step_val {ops : Array Oper} {o : Oper} {a : Act} {w : World} {K : Act → World → Prop} {Q : Exit → Act → World → Prop} {E : Prop}
    (hg : o.guard = none) (x y z : Operand) (ts : Array TypeId) (hop : o.op = Op.call { callee := Callee.value (Operand.func 8), args := #[x, y, z], argTypes := ts })
    (vx vy vz v : Value) (hx : a.eval x = vx) (hy : a.eval y = vy) (hz : a.eval z = vz) (h : Calls Yba.prog 8 #[vx, vy, vz] w fun e w' => e = .returned v ∧ w' = w) (hK : K (a.put o.dst v) w) :
    if Region.wanted o (yielded ops a.tmps) = true then Oper.wp Yba.prog o a w K Q else E := by
  have hw : Region.wanted o (yielded ops a.tmps) = true := by simp [Region.wanted, hg]
  rw [if_pos hw]
  unfold Oper.wp
  have hf : (callFunc 8 #[vx, vy, vz]).run Yba.prog w = .ok (.enter 8 #[vx, vy, vz]) w := enters_of Yba.func8 (by kernel_rfl) rfl _ _
  have he : a.eval (Operand.func 8) = Value.func (Fn.func 8) #[] #[] := rfl
  simp [execOp, hop, resolve, invoke, hx, hy, hz, he, Deferred.ofValue, hf, Result.andThen]
  rw [Oper.upon_enter]
  refine h.mono ?_
  rintro e w' ⟨rfl, rfl⟩
  exact hK

/-- append within the capacity onto a row of the call's own, as one step of a region that draws. -/
theorem step_append_fits {P : Program} {ops : Array Oper} {o : Oper} {a : Act} {w : World} {K : Act → World → Prop} {Q : Exit → Act → World → Prop} {E : Prop}
    (hg : o.guard = none) (s x : Operand) (t : TypeId) (hop : o.op = Op.call { callee := Callee.builtin Builtin.append, args := #[s, x], argTypes := #[t, t] })
    (base : Nat) (e : TypeId) (i : TypeInfo) (size : Nat) (h1 : P.underlying t = some (.slice e)) (h2 : P.info? e = some i) (h4 : i.size = size)
    (g k cap : Nat) (xs : List Value) (hs : a.eval s = .slice (some ⟨g, 0, none⟩) k cap) (hown : w.ownsRow base e size (.slice (some ⟨g, 0, none⟩) k cap) k xs) (ad : Addr) (m c : Nat) (news : List Value) (hx : a.eval x = .slice (some ad) m c) (hn : news.length = m * size)
    (hc : ∀ j u, news[j]? = some u → w.cell? (ad.add j) = some u) (h1c : ∀ u ∈ news, u.oneCell' = true) (b1 : k + m ≤ cap)
    (hK : ∀ w', w'.ownsRow base e size (.slice (some ⟨g, 0, none⟩) (k + m) cap) (k + m) (xs ++ news) → w.grownBy w' (some g) → K (a.put o.dst (.slice (some ⟨g, 0, none⟩) (k + m) cap)) w') :
    if Region.wanted o (yielded ops a.tmps) = true then Oper.wp P o a w K Q else E := by
  have hw : Region.wanted o (yielded ops a.tmps) = true := by simp [Region.wanted, hg]
  rw [if_pos hw]
  obtain ⟨w', hrun, r1, r2⟩ := run_append_fits (P := P) w base t o.type e i size h1 h2 h4 g k cap xs hown ad m c news hn hc h1c b1
  unfold Oper.wp
  simp [execOp, hop, resolve, invoke, builtin, hs, hx, hrun, Result.andThen]
  exact hK w' r1 r2
/-- The eight names, and the k-th. -/
def abc : ByteArray := ⟨#[97, 98, 99, 100, 101, 102, 103, 104]⟩
def nm (j : Nat) : ByteArray := abc.extract j (j + 1)
theorem cmp_nm (i j : Nat) (hi : i < 8) (hj : j < 8) : Lib.compareBytes (nm i).data.toList (nm j).data.toList = if i < j then -1 else if j < i then 1 else 0 := by
  have : ∀ i j : Fin 8, Lib.compareBytes (nm i).data.toList (nm j).data.toList = if (i : Nat) < j then -1 else if (j : Nat) < i then 1 else 0 := by decide +kernel
  exact this ⟨i, hi⟩ ⟨j, hj⟩

theorem compare_any (a b : ByteArray) (w : World) :
    Calls Yba.prog 18 #[.string a, .string b] w fun e w' => e = .returned (.int .i64 (Lib.compareBytes a.data.toList b.data.toList)) ∧ w' = w := by
  go_enter Yba.func18, Yba.ntmps18
  go_wp2
  rw [run_callFunc_extern Yba.func24 (by kernel_rfl) (by kernel_rfl) (by kernel_rfl) (e := Extern.BytealgCompare.compare) (by kernel_rfl), Lib.run_compareString]
  simp only [Result.andThen]
  rw [Oper.upon_value]
  go_wp2
  go_ret
  exact ⟨rfl, rfl⟩

/-- The j-th bit of a mask, as the program reckons it. -/
def bt (m j : Nat) : Bool := bits BinOp.and .u8 ((m : Int) / 2 ^ j) 1 == 1

abbrev Lab := Nat × ByteArray
def flat (l : List Lab) : List Value := l.flatMap fun x => [.string (nm x.1), .string x.2]
/-- The labels from s on, n of them asked. -/
def blF (P : Nat → Bool) (f : Nat → ByteArray) (s : Nat) : Nat → List Lab
  | 0 => []
  | n + 1 => if P s then (s, f s) :: blF P f (s + 1) n else blF P f (s + 1) n
def blT (P : Nat → Bool) (f : Nat → ByteArray) (j : Nat) : List Lab := blF P f 0 j

theorem blF_snoc (P : Nat → Bool) (f : Nat → ByteArray) : ∀ n s, blF P f s (n + 1) = blF P f s n ++ (if P (s + n) then [(s + n, f (s + n))] else [])
  | 0, s => by simp [blF]
  | n + 1, s => by
    have ih := blF_snoc P f n (s + 1)
    rw [show s + 1 + n = s + (n + 1) by omega] at ih
    rw [blF, ih]
    conv => rhs; rw [blF]
    split <;> simp
theorem blT_succ (P : Nat → Bool) (f : Nat → ByteArray) (j : Nat) : blT P f (j + 1) = blT P f j ++ (if P j then [(j, f j)] else []) := by
  have := blF_snoc P f j 0
  simpa [blT] using this
theorem blT_len (P : Nat → Bool) (f : Nat → ByteArray) : ∀ j, (blT P f j).length ≤ j
  | 0 => by simp [blT, blF]
  | j + 1 => by
    have := blT_len P f j
    rw [blT_succ]
    split <;> simp <;> omega
theorem flat_append (a b : List Lab) : flat (a ++ b) = flat a ++ flat b := by simp [flat]
theorem flat_length (l : List Lab) : (flat l).length = l.length * 2 := by
  induction l with
  | nil => rfl
  | cons x l ih => simp [flat] at *; omega

theorem info36 : (Yba.prog.info? 36).map (fun i => (i.zero, i.size, i.bytes)) = some (some (.agg #[.string ByteArray.empty, .string ByteArray.empty]), 2, 32) := by kernel_rfl
theorem cells_two_new (w : World) (s : Nat) (hs : s = w.heap.size) (x y : Value) (t : TypeId) : ∀ j u, [x, y][j]? = some u → (w.alloc (.cells #[x, y] t)).cell? ((⟨s, 0, none⟩ : Addr).add j) = some u := by
  subst hs
  intro j u hu
  match j, hu with
  | 0, hu => simp at hu; subst hu; simp [Addr.add]
  | 1, hu => simp at hu; subst hu; simp [Addr.add]

theorem strs_later {w w' : World} {a : Option Addr} {ss : List ByteArray} (h : Strs w a ss) (hb : Below w.heap.size w w') : Strs w' a ss := by
  intro h0
  obtain ⟨b, o, e, hc⟩ := h h0
  exact ⟨b, o, e, fun i hi => (hb.cell (World.block_lt_of_cell? _ _ (hc i hi))).trans (hc i hi)⟩
theorem drewN_below {B : Nat} (w : World) (m : Nat) : Below B w (w.drewN m) := ⟨rfl, rfl, rfl, Nat.le_refl _, fun _ _ => rfl⟩
theorem val_at (a : Option Addr) (ss : List ByteArray) (cap i j : Nat) (w : World) (n : Nat) (h : Strs w a ss) (hl : ss.length ≤ 9223372036854775807) (hi : i ≤ 512) (hj : j < 8) :
    Calls Yba.prog 8 #[.slice a ss.length cap, .int .i64 i, .int .i64 j] (w.drewN n) fun e w' => e = .returned (.string (vl ss i j)) ∧ ∃ m, w' = w.drewN m :=
  (val_any a ss cap i j (w.drewN n) h hl hi hj).mono fun _ _ ⟨he, hw⟩ => ⟨he, n, hw⟩

theorem slice_str (s : ByteArray) (a b : Nat) (h1 : a ≤ b) (h2 : b ≤ s.size) (w : World) : Sem.run Yba.prog (Instr.slice 9 (.string s) (some (.int .i64 (a : Int))) (some (.int .i64 (b : Int))) none) w = .ok (.string (s.extract a b)) w := by
  have g0 : (0 : Int) ≤ a := by omega
  have g1 : (a : Int) ≤ b := by omega
  have g2 : (b : Int) ≤ s.size := by omega
  go_simp
/-- The step 'name j, value' of the walks: what the region's numbers come to. -/
theorem slice_abc (j : Nat) (hj : j < 8) : ∃ k : Nat, Hid (k = j + 1) ∧ IntKind.i64.wrap ((j : Int) + 1) = (k : Int) ∧ ∀ w : World, Sem.run Yba.prog (Instr.slice 9 (.string ⟨#[97, 98, 99, 100, 101, 102, 103, 104]⟩) (some (.int .i64 (j : Int))) (some (.int .i64 (k : Int))) none) w = .ok (.string (nm j)) w :=
  ⟨j + 1, rfl, by rw [wrap_small _ (by omega) (by omega)]; simp, fun w => slice_str _ j (j + 1) (by omega) (by show j + 1 ≤ 8; omega) w⟩

set_option maxHeartbeats 1000000 in
set_option maxRecDepth 20000 in
theorem build_some (m : Nat) (a : Option Addr) (ss : List ByteArray) (cap i : Nat) (w : World) (h : Strs w a ss) (hl : ss.length ≤ 9223372036854775807) (hm : m < 256) (hm0 : ¬ m = 0) (hi : i ≤ 512) :
    Calls Yba.prog 5 #[.int .u8 m, .slice a ss.length cap, .int .i64 i] w fun e w' => ∃ n, e = .returned (.slice (some ⟨w.heap.size, 0, none⟩) n 8) ∧ n = (blT (bt m) (vl ss i) 8).length ∧
      w'.ownsRow w.heap.size 36 2 (.slice (some ⟨w.heap.size, 0, none⟩) n 8) n (flat (blT (bt m) (vl ss i) 8)) ∧ Below w.heap.size w w' := by
  have hm1 : ((m : Int) == 0) = false := by simp; omega
  obtain ⟨i0, hi0, hz0, hz1, hz2⟩ := info_parts info36
  go_enter Yba.func5, Yba.ntmps5
  go_wp2_with (at_make; refine wpList_make_own _ rfl _ _ 25 rfl w.heap.size 36 i0 _ 2 Yba.underlying25 hi0 hz0 hz1 _ _ _ 8 rfl rfl rfl (by rw [hz2]; decide) (by decide) (Nat.le_refl _) ?_)
  intro w1 hown hgrow
  have B1 : Hid (Below w.heap.size w w1) := (Below.refl _ w).grown hgrow (Nat.le_refl _) (fun k hk => by cases hk)
  have O1 : Hid (w1.ownsRow w.heap.size 36 2 (.slice (some ⟨w.heap.size, 0, none⟩) 0 8) 0 (flat (blT (bt m) (vl ss i) 0))) := hown
  clear hown hgrow
  go_wp2
  go_loopw [8, 7] (fun j s wr => ∃ jj n : Nat, jj ≤ 8 ∧ j = .int .i64 jj ∧ s = .slice (some ⟨w.heap.size, 0, none⟩) n 8 ∧ Hid (n = (blT (bt m) (vl ss i) jj).length) ∧ n ≤ jj ∧
    Hid (wr.ownsRow w.heap.size 36 2 (.slice (some ⟨w.heap.size, 0, none⟩) n 8) n (flat (blT (bt m) (vl ss i) jj))) ∧ Hid (Below w.heap.size w wr)) (fun j _ _ => 8 - (intOf j).toNat)
  case atStart => exact ⟨0, 0, by omega, rfl, rfl, rfl, by omega, O1, B1⟩
  case round =>
    obtain ⟨j, n, hj, rfl, rfl, HL, hn, O, B⟩ := hrel
    clear O1 B1
    by_cases hlt : j < 8
    · have hlt' : (j : Int) < 8 := by omega
      cases hb : bt m j with
      | false =>
        have hb' : (bits BinOp.and IntKind.u8 ((m : Int) / 2 ^ j) 1 == 1) = false := hb
        go_wp2
        go_roundw
        case rel => exact ⟨j + 1, n, by omega, by simp, rfl, by rw [blT_succ, hb, if_neg (by decide), List.append_nil]; exact HL, by omega, by rw [blT_succ, hb, if_neg (by decide), List.append_nil]; exact O, B⟩
        case measure => simp [intOf]; omega
      | true =>
        have hb' : (bits BinOp.and IntKind.u8 ((m : Int) / 2 ^ j) 1 == 1) = true := hb
        obtain ⟨kk, HK, hkk, hsl⟩ := slice_abc j hlt
        have HS : Hid (Strs wr.drew a ss) := strs_later h B.out.drew
        have OD : Hid (∀ o, (wr.drew.alloc o).ownsRow w.heap.size 36 2 (.slice (some ⟨w.heap.size, 0, none⟩) n 8) n (flat (blT (bt m) (vl ss i) j))) := fun o => World.ownsRow.alloc (w := wr.drew) O.out o
        have HC : Hid (∀ u ∈ [Value.string (nm j), Value.string (vl ss i j)], u.oneCell' = true) := by intro u hu; simp at hu; rcases hu with rfl | rfl <;> rfl
        go_wp2
        go_region_law (first
          | (refine step_val rfl (.tmp 27) (.tmp 28) (.tmp 29) _ rfl (.slice a ss.length cap) (.int .i64 i) (.int .i64 j) (.string (vl ss i j)) (by simp [Act.eval, Act.put]) (by simp [Act.eval, Act.put]) (by simp [Act.eval, Act.put]) (val_any a ss cap i j wr.drew HS.out hl hi hlt) ?_)
          | (refine step_append_fits rfl (.tmp 22) (.tmp 32) 25 rfl w.heap.size 36 i0 2 Yba.underlying25 hi0 hz1 w.heap.size n 8 _ (by simp [Act.eval, Act.put]) (OD.out _) ⟨wr.heap.size, 0, none⟩ 1 1 [.string (nm j), .string (vl ss i j)] (by simp [Act.eval, Act.put]) rfl (cells_two_new wr.drew _ rfl _ _ _) HC.out (by omega) ?_; intro w2 hO hG))
        all_goals
          have O2 : Hid (w2.ownsRow w.heap.size 36 2 (.slice (some ⟨w.heap.size, 0, none⟩) (n + 1) 8) (n + 1) (flat (blT (bt m) (vl ss i) (j + 1)))) := by
            rw [blT_succ, hb, flat_append]; exact hO
          have B2 : Hid (Below w.heap.size w w2) := ((B.out.drew.alloc B.out.size _).grown hG (by simp; exact Nat.le_succ_of_le B.out.size) (fun k hk => by cases hk; exact Nat.le_refl _))
          have L2 : Hid (n + 1 = (blT (bt m) (vl ss i) (j + 1)).length) := by rw [blT_succ, hb]; have := HL.out; simp; omega
          clear hO hG O B HL OD HS HC
          clear hkk hsl
          obtain rfl := HK.out
          go_wp2
          go_roundw
          case rel => exact ⟨j + 1, n + 1, by omega, by simp, rfl, L2, by omega, O2, B2⟩
          case measure => simp [intOf]; omega
    · obtain rfl : j = 8 := by omega
      go_wp2
      go_ret
      exact ⟨n, rfl, HL.out, O.out, B.out⟩
end Go.Proofs.Ybulkadpk
