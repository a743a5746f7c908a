import Derived.Test.YbulkadpkSrv
namespace Go.Proofs.Ybulkadpk
open Go.RowKit Go.QuietTail
set_option linter.unusedVariables false
set_option linter.unusedSimpArgs false

theorem wpQuiet_load_blk {ops : Array Oper} {C : World → Prop} {Q : Act → Prop} {a : Act} {o : Oper} {rest : List Oper} (hw : Region.wanted o (yielded ops a.tmps) = true) (ty : TypeId) (x : Operand) (ho : o.op = .load ty x)
    (b : Nat) (hx : a.eval x = .pointer (some ⟨b, 0, none⟩)) (cs : List Value) (fs : Array Field) (hc : ∀ w, C w → Blk w b ty cs)
    (hu : Yba.prog.underlying ty = some (.struct fs)) (hi : (Yba.prog.info? ty).map (·.size) = some cs.length) (h : wpQuiet Yba.prog ops C Q rest (a.put o.dst (.agg cs.toArray))) : wpQuiet Yba.prog ops C Q (o :: rest) a :=
  wpQuiet_step fun K hK => by
    rw [if_pos hw]
    refine ⟨.agg cs.toArray, fun w hw' => ?_, hK _ h⟩
    unfold Oper.quietAt execOp
    simp only [ho, hx, Instr.loadAt, Instr.sureAddr, Sem.run_bind, Sem.run_pure, Result.andThen_ok, run_loadVar_row w b ty ty cs.toArray (0, 0) _ (hc w hw').h hu rfl (by simpa using hi)]
    exact ⟨rfl, rfl⟩
theorem calls_later {W w : World} {f : FuncId} {args : Array Value} {v : Value} (h : Calls Yba.prog f args w fun e w' => e = .returned v ∧ Below W.heap.size W w') : Calls Yba.prog f args w fun e w' => e = .returned v ∧ ∃ q : Later W, w' = q.w :=
  h.mono fun _ _ ⟨he, hb⟩ => ⟨he, Later.ex hb⟩

/-- The cells of what a family is served as. -/
def PartC (c bit : Bool) (k : Int) (mv : Value) (M : List (List Int)) (n : Nat) (cs : List Value) : Prop :=
  if (c && bit) = true then ∃ v1 v2, (∃ p q, v1 = .slice p (tots M.flatten) q) ∧ (∃ p q, v2 = .slice p (cres M.flatten) q) ∧
    ((cres M.flatten = 0 ∧ n = 1 ∧ cs = famC (nmB k ++ ⟨#[95, 116, 111, 116, 97, 108]⟩) ⟨#[117, 110, 107, 110, 111, 119, 110]⟩ true v1) ∨
     (0 < cres M.flatten ∧ n = 2 ∧ cs = famC (nmB k ++ ⟨#[95, 116, 111, 116, 97, 108]⟩) ⟨#[117, 110, 107, 110, 111, 119, 110]⟩ true v1 ++ famC (nmB k ++ ⟨#[95, 99, 114, 101, 97, 116, 101, 100]⟩) ⟨#[103, 97, 117, 103, 101]⟩ false v2))
  else n = 1 ∧ cs = famC (nmB k) (tyB c) false mv

set_option maxHeartbeats 1000000 in
theorem append_at (c : Bool) (k mask : Int) (mv : Value) (M : List (List Int)) (sB m B : Nat) (dst : Value) (w : World) (hM : MetsL 0 w.heap.size w mv M) (hl : M.flatten.length ≤ 4096) (hml : M.length ≤ 4096)
    (hm : SplitMap w m mask) (hs : w.cell? ⟨sB, 13, none⟩ = some (.map (some m))) (hsl : sB < w.heap.size) (hd : w.ownsRow B 79 6 dst 0 []) (hB : B ≤ w.heap.size) :
    Calls Yba.prog 17 #[.pointer (some ⟨sB, 0, none⟩), dst, .agg (famC (nmB k) (tyB c) false mv).toArray] w fun e w' => ∃ v, e = .returned v ∧ ∃ n cs, w'.ownsRow B 79 6 v n cs ∧ PartC c (bitOf mask k) k mv M n cs ∧ w.grownBy w' dst.ownBlock ∧ (v.ownBlock = dst.ownBlock ∨ ∃ g, v.ownBlock = some g ∧ w.heap.size ≤ g) := by
  obtain ⟨p0, c0, rfl⟩ : ∃ p c, dst = .slice p 0 c := by
    rcases hd.2 with ⟨rfl, _⟩ | ⟨g, cap, _, rfl, _⟩
    · exact ⟨_, _, rfl⟩
    · exact ⟨_, _, rfl⟩
  obtain ⟨mp, mc, rfl⟩ := hM.form
  have HBx : Hid (Blk (w.alloc (.cells (famC (nmB k) (tyB c) false (.slice mp M.length mc)).toArray 79)) w.heap.size 79 (famC (nmB k) (tyB c) false (.slice mp M.length mc))) := Blk.new w 79 _
  have HL1 : Hid (Below w.heap.size w (w.alloc (.cells (famC (nmB k) (tyB c) false (.slice mp M.length mc)).toArray 79))) := (Below.refl _ w).alloc (Nat.le_refl _) _
  go_enter Yba.func17, Yba.ntmps17
  go_wp2
  obtain ⟨W, hW⟩ : ∃ W, W = w.alloc (.cells (famC (nmB k) (tyB c) false (.slice mp M.length mc)).toArray 79) := ⟨_, rfl⟩
  rw [← hW] at HBx HL1 ⊢
  clear hW
  have HM : Hid (MetsL 0 w.heap.size w (.slice mp M.length mc) M) := hM
  have HSM : Hid (SplitMap w m mask) := hm
  have hN : Nonempty (Later W) := ⟨⟨W, Below.refl _ _⟩⟩
  have HD : Hid (w.ownsRow B 79 6 (.slice p0 0 c0) 0 []) := hd
  have qs : ∀ p : Later W, p.w.cell? ⟨sB, 13, none⟩ = some (.map (some m)) := fun p => by rw [p.h.cell (p := ⟨sB, 13, none⟩) (Nat.lt_of_lt_of_le hsl HL1.out.size), HL1.out.cell (p := ⟨sB, 13, none⟩) hsl]; exact hs
  have HQB : Hid (∀ w', (∃ p : Later W, w' = p.w) → Blk w' w.heap.size 79 (famC (nmB k) (tyB c) false (.slice mp M.length mc))) := by rintro w' ⟨p, rfl⟩; exact HBx.out.on p.h
  clear hM hm hd hs
  refine wp_region_later (by kernel_rfl) (by kernel_rfl) ?_
  refine wpQuiet_load_blk rfl 79 (.tmp 5) rfl _ rfl _ _ HQB.out Yba.underlying79 size79 ?_
  simp only [Act.put, List.setIfInBounds_toArray, List.set_cons_succ, List.set_cons_zero]
  iterate 4 (go_big_quiet_step (fail))
  go_big_quiet_want
  go_big_quiet_op
  refine ⟨_, fun q => calls_later ((served_at c k false _ m mask _ ((HSM.out.later HL1.out HSM.out.lt).later q.h (Nat.lt_of_lt_of_le HSM.out.lt HL1.out.size))).mono (fun e w' ⟨h1, h2⟩ => ⟨h1, q.h.trans (h2.mono q.h.size)⟩)), ?_⟩
  go_big_quiet_on
  refine wpQuiet_nil ?_
  intro w5 hw5
  obtain ⟨⟨_, hb5⟩, rfl⟩ := hw5
  rename World => w5
  have HL5 : Hid (Below w.heap.size w w5) := HL1.out.trans (hb5.mono HL1.out.size)
  have HB5 : Hid (Blk w5 w.heap.size 79 [.string (nmB k), .string (tyB c), .string ByteArray.empty, .string ⟨#[104]⟩, .bool false, .slice mp M.length mc]) := HBx.out.on hb5
  have hd5 : w5.ownsRow B 79 6 (.slice p0 0 c0) 0 [] := by
    refine HD.out.kept (row := none) ⟨HL5.out.os, HL5.out.tape, HL5.out.output, HL5.out.size, fun k hk _ => HL5.out.block k hk⟩ ?_
    cases (Value.slice p0 0 c0).ownBlock <;> simp
  have HD5 : Hid (w5.ownsRow B 79 6 (.slice p0 0 c0) 0 []) := hd5
  have HM5 : Hid (MetsL 0 w5.heap.size w5 (.slice mp M.length mc) M) := HM.out.kept (Keep.of_below HL5.out (Nat.le_refl _)) (Nat.le_refl _) HL5.out.size
  have HDL : Hid (∀ g, (Value.slice p0 0 c0).ownBlock = some g → g < w.heap.size) := fun g e => (HD.out.lt g e).2
  have hBs : B ≤ w5.heap.size := Nat.le_trans hB HL5.out.size
  clear hd5 hb5 HBx HL1 HM HSM hN HD qs HQB
  obtain ⟨i0, hi0, hz0, hz1, hz2⟩ := info_parts info79
  obtain ⟨r, hr⟩ : ∃ r, r = (c && bitOf mask k) := ⟨_, rfl⟩
  rw [← hr]
  have HR : Hid (r = (c && bitOf mask k)) := hr
  clear hr
  cases r
  · have HPC : Hid (PartC c (bitOf mask k) k (.slice mp M.length mc) M 1 [.string (nmB k), .string (tyB c), .string ByteArray.empty, .string ⟨#[104]⟩, .bool false, .slice mp M.length mc]) := by
      show PartC _ _ _ _ _ _ _
      unfold PartC
      rw [← HR.out, if_neg (by decide)]
      exact ⟨rfl, rfl⟩
    have H1 : Hid (∀ u ∈ ([.string (nmB k), .string (tyB c), .string ByteArray.empty, .string ⟨#[104]⟩, .bool false, .slice mp M.length mc] : List Value), u.oneCell' = true) := famC_one _ _ _ _ _ _
    have HN1 : Hid (∀ (j : Nat) (u : Value), ([.string (nmB k), .string (tyB c), .string ByteArray.empty, .string ⟨#[104]⟩, .bool false, .slice mp M.length mc] : List Value)[j]? = some u → (w5.alloc (.cells ([.string (nmB k), .string (tyB c), .string ByteArray.empty, .string ⟨#[104]⟩, .bool false, .slice mp M.length mc] : List Value).toArray 79)).cell? ((⟨w5.heap.size, 0, none⟩ : Addr).add j) = some u) := fun j u hu => by
      rw [Addr.add_mid, Nat.zero_add, (Blk.new w5 79 _).cell j]
      exact hu
    go_wp2_with (first | (refine wpList_load_blk rfl 79 (.tmp 5) rfl _ rfl _ _ HB5.out Yba.underlying79 size79 ?_) | (at_builtin; refine wpList_append_own_at _ rfl (.tmp 17) (.tmp 19) 71 rfl B 79 i0 _ 6 96 Yba.underlying71 hi0 hz0 hz1 hz2 rfl (by decide) _ 0 [] rfl (World.ownsRow.alloc HD5.out _) ⟨w5.heap.size, 0, none⟩ 1 1 [.string (nmB k), .string (tyB c), .string ByteArray.empty, .string ⟨#[104]⟩, .bool false, .slice mp M.length mc] rfl rfl HN1.out H1.out (by unfold maxLen; omega) (by omega) (by simp; omega) ?_; intro v' w6 hO hG hnil hat))
    go_ret
    have hx : w.grownBy w6 (Value.slice p0 0 c0).ownBlock := by
      have h5 := HL5.out.alloc (Nat.le_trans HL5.out.size (Nat.le_refl _)) (.cells ([.string (nmB k), .string (tyB c), .string ByteArray.empty, .string ⟨#[104]⟩, .bool false, .slice mp M.length mc] : List Value).toArray 79)
      exact ⟨hG.os.trans h5.os, hG.tape.trans h5.tape, hG.output.trans h5.output, Nat.le_trans h5.size hG.size, fun i hi hne => (hG.block i (Nat.lt_of_lt_of_le hi h5.size) hne).trans (h5.block i hi)⟩
    exact ⟨v', rfl, 1, _, by simpa using hO, HPC.out, hx, hat.imp id (fun h => ⟨_, h, by have := HL5.out.size; simp; omega⟩)⟩
  · go_wp2_with (refine wpList_load_blk rfl 79 (.tmp 5) rfl _ rfl _ _ HB5.out Yba.underlying79 size79 ?_)
    refine (split_any (nmB k) (tyB c) false _ M w5 (by rw [nmB_size]; decide) HM5.out hl hml).mono ?_
    rintro e w6 ⟨⟨v1, v2, g, hg, ⟨p1, c1, rfl⟩, ⟨p2, c2, rfl⟩, hcase⟩, hb6⟩
    have HL6 : Hid (Below w.heap.size w w6) := HL5.out.trans (hb6.mono HL5.out.size)
    have HD6 : Hid (w6.ownsRow B 79 6 (.slice p0 0 c0) 0 []) := by
      refine HD5.out.kept (row := none) ⟨hb6.os, hb6.tape, hb6.output, hb6.size, fun k hk _ => hb6.block k hk⟩ ?_
      cases (Value.slice p0 0 c0).ownBlock <;> simp
    have HFIN : Hid (∀ w7, w6.grownBy w7 (Value.slice p0 0 c0).ownBlock → w.grownBy w7 (Value.slice p0 0 c0).ownBlock) := fun w7 hG =>
      ⟨hG.os.trans HL6.out.os, hG.tape.trans HL6.out.tape, hG.output.trans HL6.out.output, Nat.le_trans HL6.out.size hG.size, fun i hi hne => (hG.block i (Nat.lt_of_lt_of_le hi HL6.out.size) hne).trans (HL6.out.block i hi)⟩
    have hB6 : B ≤ w6.heap.size := Nat.le_trans hB HL6.out.size
    clear hb6
    rcases hcase with ⟨z, rfl, hblk⟩ | ⟨z, rfl, hblk⟩
    · have H1 : Hid (∀ u ∈ (famC (nmB k ++ ⟨#[95, 116, 111, 116, 97, 108]⟩) ⟨#[117, 110, 107, 110, 111, 119, 110]⟩ true (.slice p1 (tots M.flatten) c1)), u.oneCell' = true) := famC_one _ _ _ _ _ _
      have HN1 : Hid (∀ (j : Nat) (u : Value), (famC (nmB k ++ ⟨#[95, 116, 111, 116, 97, 108]⟩) ⟨#[117, 110, 107, 110, 111, 119, 110]⟩ true (.slice p1 (tots M.flatten) c1))[j]? = some u → w6.cell? ((⟨g, 0, none⟩ : Addr).add j) = some u) := fun j u hu => by
        rw [Addr.add_mid, Nat.zero_add, hblk.cell j]
        exact hu
      have HPC : Hid (PartC c (bitOf mask k) k (.slice mp M.length mc) M 1 (famC (nmB k ++ ⟨#[95, 116, 111, 116, 97, 108]⟩) ⟨#[117, 110, 107, 110, 111, 119, 110]⟩ true (.slice p1 (tots M.flatten) c1))) := by
        show PartC _ _ _ _ _ _ _
        unfold PartC
        rw [← HR.out, if_pos rfl]
        exact ⟨_, _, ⟨p1, c1, rfl⟩, ⟨p2, c2, rfl⟩, .inl ⟨z, rfl, rfl⟩⟩
      clear hblk z
      go_wp2_with (at_builtin; refine wpList_append_own_at _ rfl (.tmp 13) (.tmp 15) 71 rfl B 79 i0 _ 6 96 Yba.underlying71 hi0 hz0 hz1 hz2 rfl (by decide) _ 0 [] rfl HD6.out ⟨g, 0, none⟩ 1 1 (famC (nmB k ++ ⟨#[95, 116, 111, 116, 97, 108]⟩) ⟨#[117, 110, 107, 110, 111, 119, 110]⟩ true (.slice p1 (tots M.flatten) c1)) rfl rfl HN1.out H1.out (by unfold maxLen; omega) (by omega) (by omega) ?_; intro v' w7 hO hG hnil hat)
      go_ret
      exact ⟨v', rfl, 1, _, by simpa using hO, HPC.out, HFIN.out _ hG, hat.imp id (fun h => ⟨_, h, HL6.out.size⟩)⟩
    · have H1 : Hid (∀ u ∈ ((famC (nmB k ++ ⟨#[95, 116, 111, 116, 97, 108]⟩) ⟨#[117, 110, 107, 110, 111, 119, 110]⟩ true (.slice p1 (tots M.flatten) c1)) ++ (famC (nmB k ++ ⟨#[95, 99, 114, 101, 97, 116, 101, 100]⟩) ⟨#[103, 97, 117, 103, 101]⟩ false (.slice p2 (cres M.flatten) c2))), u.oneCell' = true) := fun u hu => (List.mem_append.1 hu).elim (famC_one _ _ _ _ _ _ u) (famC_one _ _ _ _ _ _ u)
      have HN1 : Hid (∀ (j : Nat) (u : Value), ((famC (nmB k ++ ⟨#[95, 116, 111, 116, 97, 108]⟩) ⟨#[117, 110, 107, 110, 111, 119, 110]⟩ true (.slice p1 (tots M.flatten) c1)) ++ (famC (nmB k ++ ⟨#[95, 99, 114, 101, 97, 116, 101, 100]⟩) ⟨#[103, 97, 117, 103, 101]⟩ false (.slice p2 (cres M.flatten) c2)))[j]? = some u → w6.cell? ((⟨g, 0, none⟩ : Addr).add j) = some u) := fun j u hu => by
        rw [Addr.add_mid, Nat.zero_add, hblk.cell j]
        exact hu
      have HPC : Hid (PartC c (bitOf mask k) k (.slice mp M.length mc) M 2 ((famC (nmB k ++ ⟨#[95, 116, 111, 116, 97, 108]⟩) ⟨#[117, 110, 107, 110, 111, 119, 110]⟩ true (.slice p1 (tots M.flatten) c1)) ++ (famC (nmB k ++ ⟨#[95, 99, 114, 101, 97, 116, 101, 100]⟩) ⟨#[103, 97, 117, 103, 101]⟩ false (.slice p2 (cres M.flatten) c2)))) := by
        show PartC _ _ _ _ _ _ _
        unfold PartC
        rw [← HR.out, if_pos rfl]
        exact ⟨_, _, ⟨p1, c1, rfl⟩, ⟨p2, c2, rfl⟩, .inr ⟨z, rfl, rfl⟩⟩
      clear hblk z
      go_wp2_with (at_builtin; refine wpList_append_own_at _ rfl (.tmp 13) (.tmp 15) 71 rfl B 79 i0 _ 6 96 Yba.underlying71 hi0 hz0 hz1 hz2 rfl (by decide) _ 0 [] rfl HD6.out ⟨g, 0, none⟩ 2 2 ((famC (nmB k ++ ⟨#[95, 116, 111, 116, 97, 108]⟩) ⟨#[117, 110, 107, 110, 111, 119, 110]⟩ true (.slice p1 (tots M.flatten) c1)) ++ (famC (nmB k ++ ⟨#[95, 99, 114, 101, 97, 116, 101, 100]⟩) ⟨#[103, 97, 117, 103, 101]⟩ false (.slice p2 (cres M.flatten) c2))) rfl rfl HN1.out H1.out (by unfold maxLen; omega) (by omega) (by omega) ?_; intro v' w7 hO hG hnil hat)
      go_ret
      exact ⟨v', rfl, 2, _, by simpa using hO, HPC.out, HFIN.out _ hG, hat.imp id (fun h => ⟨_, h, HL6.out.size⟩)⟩
end Go.Proofs.Ybulkadpk
