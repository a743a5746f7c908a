import Derived.Test.YbulkadpkAppend
namespace Go.Proofs.Ybulkadpk
open Go.RowKit Go.QuietTail Go.Shelf
set_option linter.unusedVariables false
set_option linter.unusedSimpArgs false

theorem clip_any (a : Option Addr) (c : Nat) (l : List Lab) (p : Nat → Prop) (w0 w : World) (h : LabsAt w0 a c l p) :
    Calls Yba.prog 14 #[.slice a l.length c] w fun e w' => e = .returned (.slice a l.length l.length) ∧ w' = w := by
  rcases h with ⟨rfl, rfl, rfl⟩ | ⟨b, o, rfl, _, _, hc, hcm, _⟩
  · go_enter Yba.func14, Yba.ntmps14
    go_wp2
    go_ret
    exact ⟨rfl, rfl⟩
  · generalize l.length = n at *
    have g1 : (n : Int) ≤ (c : Int) := by omega
    by_cases h0 : n = 0
    · subst h0
      go_enter Yba.func14, Yba.ntmps14
      go_wp2
      go_ret
      exact ⟨rfl, rfl⟩
    · have h1 : ¬ (n : Int) = 0 := by omega
      go_enter Yba.func14, Yba.ntmps14
      go_wp2
      go_ret
      exact ⟨rfl, rfl⟩

/-- A metric's label set, where it lies. -/
def MetAt (w : World) (mb k : Nat) (l : List Lab) (p : Nat → Prop) : Prop :=
  ∃ a c, w.cell? ⟨mb, k * 2, none⟩ = some (.slice a l.length c) ∧ LabsAt w a c l p ∧ w.cell? ⟨mb, k * 2 + 1, none⟩ = some (.slice none 0 0) ∧ w.frozen? ⟨mb, k * 2, none⟩ = false

def cnt (M : Nat → List Lab) (lk : Nat) : Nat → Nat
  | 0 => 0
  | k + 1 => cnt M lk k + (if 0 < (M k).length then (M k).length + lk else 0)

theorem grownBy_setCell (w : World) (g j : Nat) (v : Value) : w.grownBy (w.setCell ⟨g, j, none⟩ v) (some g) :=
  ⟨rfl, rfl, rfl, by simp, fun k _ hk => heap_setCell_other w ⟨g, j, none⟩ k v (fun e => hk (by simp [e]))⟩
theorem cnt_mono (M : Nat → List Lab) (lk : Nat) : ∀ n i, i ≤ n → cnt M lk i ≤ cnt M lk n
  | 0, i, h => by obtain rfl : i = 0 := by omega
                  exact Nat.le_refl _
  | n + 1, i, h => by
    rcases Nat.lt_or_ge i (n + 1) with h' | h'
    · exact Nat.le_trans (cnt_mono M lk n i (by omega)) (Nat.le_add_right _ _)
    · obtain rfl : i = n + 1 := by omega
      exact Nat.le_refl _
theorem mrg_pos (l o : List Lab) (h : 0 < l.length) : 0 < (mrg l o).length := by
  cases l with
  | nil => simp at h
  | cons x l =>
    cases o with
    | nil => rw [mrg]; simp
    | cons y o =>
      rw [mrg]
      split
      · simp
      · split <;> simp
theorem addr_ne (mb i k : Nat) (h : k ≠ i) : (⟨mb, i * 2, none⟩ : Addr) ≠ ⟨mb, k * 2, none⟩ := by
  intro e; injection e; omega
theorem addr_ne1 (mb i k : Nat) : (⟨mb, i * 2, none⟩ : Addr) ≠ ⟨mb, k * 2 + 1, none⟩ := by
  intro e; injection e; omega
theorem MetAt.setCell {w : World} {mb k : Nat} {l : List Lab} {p : Nat → Prop} (h : MetAt w mb k l p) (i : Nat) (hk : k ≠ i) (hp : ∀ b, p b → b ≠ mb) (v : Value) : MetAt (w.setCell ⟨mb, i * 2, none⟩ v) mb k l p := by
  obtain ⟨a, c, c1, hl, c2, fr⟩ := h
  refine ⟨a, c, ?_, hl.kept (by simp) (fun b pb _ => heap_setCell_other _ _ _ _ (hp b pb)), ?_, by simpa using fr⟩
  · rw [World.cell?_setCell_other (h := addr_ne mb i k hk)]; exact c1
  · rw [World.cell?_setCell_other (h := addr_ne1 mb i k)]; exact c2
theorem MetAt.grown {w w' : World} {mb k g : Nat} {l : List Lab} {p : Nat → Prop} (h : MetAt w mb k l p) (hg : w.grownBy w' (some g)) (hm : mb ≠ g) (hp : ∀ b, p b → b ≠ g) : MetAt w' mb k l p := by
  obtain ⟨a, c, c1, hl, c2, fr⟩ := h
  have hb := hg.block mb (World.block_lt_of_cell? _ _ c1) (by simpa using hm)
  exact ⟨a, c, (World.cell?_of_block (w := w) hb).trans c1, hl.kept hg.size (fun b pb hlt => hg.block b hlt (by simpa using hp b pb)), (World.cell?_of_block (w := w) hb).trans c2, (World.frozen?_of_block (w := w) hb).trans fr⟩

/-- What stands in a metric behind withKey's round: key's own slice, or a piece of the gathered array. -/
def DoneAt (w : World) (mb g k : Nat) (ka : Option Addr) (key D R : List Lab) : Prop :=
  ∃ a, w.cell? ⟨mb, k * 2, none⟩ = some (.slice a R.length R.length) ∧ ((R = key ∧ a = ka) ∨ ∃ st, a = some ⟨g, st * 2, none⟩ ∧ st + R.length ≤ D.length ∧ (D.drop st).take R.length = R)
theorem DoneAt.setCell {w : World} {mb g k : Nat} {ka : Option Addr} {key D R : List Lab} (h : DoneAt w mb g k ka key D R) (i : Nat) (hk : k ≠ i) (v : Value) : DoneAt (w.setCell ⟨mb, i * 2, none⟩ v) mb g k ka key D R := by
  obtain ⟨a, c1, h⟩ := h
  exact ⟨a, by rw [World.cell?_setCell_other (h := addr_ne mb i k hk)]; exact c1, h⟩
theorem DoneAt.grown {w w' : World} {mb g k : Nat} {ka : Option Addr} {key D R : List Lab} (h : DoneAt w mb g k ka key D R) (hg : w.grownBy w' (some g)) (hm : mb ≠ g) (X : List Lab) : DoneAt w' mb g k ka key (D ++ X) R := by
  obtain ⟨a, c1, h⟩ := h
  refine ⟨a, (World.cell?_of_block (w := w) (hg.block mb (World.block_lt_of_cell? _ _ c1) (by simpa using hm))).trans c1, ?_⟩
  rcases h with h | ⟨st, h1, h2, h3⟩
  · exact .inl h
  · refine .inr ⟨st, h1, by simp; omega, ?_⟩
    rw [List.drop_append_of_le_length (by omega), List.take_append_of_le_length (by simp; omega)]
    exact h3
theorem DoneAt.labs {w : World} {mb g k B N n : Nat} {ka : Option Addr} {ck : Nat} {key D R : List Lab} {p : Nat → Prop} (h : DoneAt w mb g k ka key D R) (hK : LabsAt w ka ck key p) (hn : n = D.length)
    (hown : w.ownsRow B 36 2 (.slice (some ⟨g, 0, none⟩) n N) n (flat D)) :
    ∃ a, w.cell? ⟨mb, k * 2, none⟩ = some (.slice a R.length R.length) ∧ LabsAt w a R.length R (fun _ => True) := by
  obtain ⟨a, c1, h⟩ := h
  refine ⟨a, c1, ?_⟩
  rcases h with ⟨rfl, rfl⟩ | ⟨st, rfl, h2, h3⟩
  · rcases hK with ⟨h1, h2, h3⟩ | ⟨b, o, h1, h2, h3, h4, h5, h6⟩
    · exact .inl ⟨h1, by rw [h3]; rfl, h3⟩
    · exact .inr ⟨b, o, h1, trivial, h3, Nat.le_refl _, by omega, h6⟩
  · rcases LabsAt.own hn hown (fun _ => True) trivial with ⟨h1, _⟩ | ⟨b, o, h1, _, hb, h4, h5, h6⟩
    · cases h1
    · cases h1
      refine .inr ⟨g, st * 2, rfl, trivial, hb, Nat.le_refl _, by omega, fun k x hx => ?_⟩
      have hk : k < R.length := by
        rcases Nat.lt_or_ge k R.length with h | h
        · exact h
        · rw [List.getElem?_eq_none h] at hx; cases hx
      rw [← h3, List.getElem?_take_of_lt hk, List.getElem?_drop] at hx
      have := h6 _ _ hx
      rw [show 0 + (st + k) * 2 = st * 2 + k * 2 by omega] at this
      exact this

theorem slice_piece (g d L N : Nat) (hL : 0 < L) (hN : d + L ≤ N) (hm : N ≤ 100000) (e : Nat) (he : e = d + L) (w : World) :
    Sem.run Yba.prog (Instr.slice 25 (.slice (some ⟨g, 0, none⟩) e N) (some (.int .i64 (d : Int))) (some (.int .i64 (e : Int))) (some (.int .i64 (e : Int)))) w = .ok (.slice (some ⟨g, d * 2, none⟩) L L) w := by
  have g0 : (0 : Int) ≤ d := by omega
  have g1 : (d : Int) ≤ (e : Int) := by omega
  have g2 : (e : Int) ≤ (N : Int) := by omega
  have g3 : e - d = L := by omega
  have g4 : ¬ e = d := by omega
  have g5 : ¬ (e : Int) = (d : Int) := by omega
  clear he
  go_simp

set_option maxHeartbeats 2000000 in
set_option maxRecDepth 20000 in
theorem withKey_any (mb n : Nat) (M : Nat → List Lab) (ka : Option Addr) (ck : Nat) (key : List Lab) (p : Nat → Prop) (w : World) (hM : ∀ k, k < n → MetAt w mb k (M k) p) (hK : LabsAt w ka ck key p) (hp : ∀ b, p b → b ≠ mb ∧ b < w.heap.size) (hmb : mb < w.heap.size) (hn : n ≤ 512)
    (sM : ∀ k, Small (M k)) (lM : ∀ k, (M k).length ≤ 8) (sK : Small key) (lK : key.length ≤ 8) :
    Calls Yba.prog 6 #[.slice (some ⟨mb, 0, none⟩) n n, .slice ka key.length ck] w fun e w' => e = .returned (.tuple #[]) ∧ w.grownBy w' (some mb) ∧
      ∀ k, k < n → ∃ a, w'.cell? ⟨mb, k * 2, none⟩ = some (.slice a (mrg (M k) key).length (mrg (M k) key).length) ∧ LabsAt w' a (mrg (M k) key).length (mrg (M k) key) (fun _ => True) := by
  obtain ⟨i0, hi0, hz0, hz1, hz2⟩ := info_parts info36
  obtain ⟨lk, hlk⟩ : ∃ x, x = key.length := ⟨_, rfl⟩
  have HM : Hid (∀ k, k < n → MetAt w mb k (M k) p) := hM
  have HK : Hid (LabsAt w ka ck key p) := hK
  have HP : Hid ((∀ b, p b → b ≠ mb ∧ b < w.heap.size) ∧ (∀ k, Small (M k)) ∧ (∀ k, (M k).length ≤ 8) ∧ Small key) := ⟨hp, sM, lM, sK⟩
  have HLK : Hid (lk = key.length) := hlk
  rw [← hlk] at lK ⊢
  clear hM hK hp sM lM sK hlk
  go_enter Yba.func6, Yba.ntmps6
  go_wp2
  go_loopw [12, 4] (fun vi vn wr => ∃ (i N : Nat), i ≤ n ∧ vi = .int .i64 i ∧ vn = .int .i64 N ∧ Hid (N = cnt M lk i) ∧ N ≤ 16 * i ∧ Hid (Below w.heap.size w wr)) (fun vi _ _ => n - (intOf vi).toNat)
  case atStart => exact ⟨0, 0, by omega, rfl, rfl, rfl, by omega, Below.refl _ _⟩
  case round =>
    obtain ⟨i, N, hi, rfl, rfl, HN, hN, HB⟩ := hrel
    by_cases hlt : i < n
    · have hlt' : (i : Int) < (n : Int) := by omega
      obtain ⟨a, c, c1, _, c2, _⟩ := HM.out i hlt
      have d1 : wr.cell? ⟨mb, i * 2, none⟩ = some (.slice a (M i).length c) := (HB.out.cell (World.block_lt_of_cell? _ _ c1)).trans c1
      have d2 : wr.cell? ⟨mb, i * 2 + 1, none⟩ = some (.slice none 0 0) := (HB.out.cell (World.block_lt_of_cell? _ _ c2)).trans c2
      have l8 := HP.out.2.2.1 i
      have HN1 : Hid (cnt M lk (i + 1) = cnt M lk i + (if 0 < (M i).length then (M i).length + lk else 0)) := rfl
      generalize (M i).length = m at *
      clear c1 c2
      by_cases h0 : 0 < m
      · have h0' : (0 : Int) < (m : Int) := by omega
        have e1 : (m : Int) + lk ≤ 16 := by omega
        have e2 : (N : Int) + (m + lk) ≤ 9000 := by omega
        go_wp2
        go_roundw
        case rel => exact ⟨i + 1, N + (m + lk), by omega, by simp, by simp, by rw [HN1.out, if_pos h0, HN.out]; rfl, by omega, HB.out.alloc HB.out.size _⟩
        case measure => simp [intOf]; omega
      · have h0' : ¬ (0 : Int) < (m : Int) := by omega
        go_wp2
        go_roundw
        case rel => exact ⟨i + 1, N, by omega, by simp, by simp, by rw [HN1.out, if_neg h0, HN.out]; rfl, by omega, HB.out.alloc HB.out.size _⟩
        case measure => simp [intOf]; omega
    · obtain rfl : n = i := by omega
      go_wp2_with (at_make; refine wpList_make_own _ rfl _ _ 25 rfl w.heap.size 36 i0 _ 2 Yba.underlying25 hi0 hz0 hz1 _ _ _ N rfl rfl rfl (by rw [hz2]; omega) (by unfold maxLen; omega) HB.out.size ?_)
      intro w1 hown hgrow
      have O1 : Hid (w1.ownsRow w.heap.size 36 2 (.slice (some ⟨wr.heap.size, 0, none⟩) 0 N) 0 (flat [])) := hown
      have B1 : Hid (Below w.heap.size w w1) := HB.out.grown hgrow HB.out.size (fun k hk => by cases hk)
      have hg0 : w.heap.size ≤ wr.heap.size := HB.out.size
      clear hown hgrow HB
      generalize wr.heap.size = g at *
      have hmg : mb ≠ g := by omega
      have HPG : Hid (∀ b, p b → b ≠ g) := fun b hb => by have := (HP.out.1 b hb).2; omega
      go_wp2
      go_loopw [33, 7] (fun vi va wr => ∃ (i d : Nat) (D : List Lab), i ≤ n ∧ vi = .int .i64 i ∧ va = .slice (some ⟨g, 0, none⟩) d N ∧ Hid (d = D.length) ∧ Hid (d ≤ cnt M lk i) ∧ d ≤ N ∧
        Hid (wr.ownsRow w.heap.size 36 2 (.slice (some ⟨g, 0, none⟩) d N) d (flat D)) ∧ Hid (w.grownBy wr (some mb)) ∧ Hid (∀ k, k < i → DoneAt wr mb g k ka key D (mrg (M k) key)) ∧ Hid (∀ k, k < n → i ≤ k → MetAt wr mb k (M k) p)) (fun vi _ _ => n - (intOf vi).toNat)
      case atStart => exact ⟨0, 0, [], by omega, rfl, rfl, rfl, Nat.zero_le _, by omega, O1, grownBy_of_below B1.out _, fun k hk => by omega, fun k hk _ => by
        obtain ⟨a, c, c1, hl, c2, fr⟩ := HM.out k hk
        exact ⟨a, c, (B1.out.cell (World.block_lt_of_cell? _ _ c1)).trans c1, hl.later B1.out, (B1.out.cell (World.block_lt_of_cell? _ _ c2)).trans c2, (B1.out.frozen hmb).trans fr⟩⟩
      case round =>
        obtain ⟨i, d, D, hi2, rfl, rfl, HD, HDc, hdN, HO, HG, HDone, HMet⟩ := hrel
        clear O1 B1
        by_cases hlt : i < n
        · have hlt' : (i : Int) < (n : Int) := by omega
          obtain ⟨a, c, c1, hl, c2, fr⟩ := HMet.out i hlt (Nat.le_refl _)
          have HLi : Hid (LabsAt wr a c (M i) p) := hl
          have HC : Hid (cnt M lk (i + 1) ≤ N) := by rw [HN.out]; exact cnt_mono M lk n (i + 1) hlt
          have HC1 : Hid (cnt M lk (i + 1) = cnt M lk i + (if 0 < (M i).length then (M i).length + lk else 0)) := rfl
          have KK : Hid (LabsAt wr ka ck key p) := HK.out.kept HG.out.size (fun b pb hlt => HG.out.block b hlt (by simpa using (HP.out.1 b pb).1))
          have PMB : Hid (∀ b, p b → b ≠ mb) := fun b hb => (HP.out.1 b hb).1
          clear hl
          by_cases h0 : (M i).length = 0
          · have hnil : M i = [] := List.eq_nil_of_length_eq_zero h0
            have R : Hid (mrg (M i) key = key) := by rw [hnil]; exact mrg_nil_left key
            have clip : ∀ w', Calls Yba.prog 14 #[.slice ka lk ck] w' fun e w'' => e = .returned (.slice ka lk lk) ∧ w'' = w' := fun w' => by rw [HLK.out]; exact clip_any ka ck key p wr w' KK.out
            have CC : Hid (∀ w', Calls Yba.prog 14 #[.slice ka lk ck] w' fun e w'' => e = .returned (.slice ka lk lk) ∧ w'' = w') := clip
            clear clip hnil
            rw [h0] at c1
            go_wp2_with (go_at_call 14; refine (CC.out _).mono ?_; rintro e w' ⟨rfl, rfl⟩)
            go_roundw
            case rel =>
              refine ⟨i + 1, d, D, by omega, by simp, rfl, HD, ?_, by omega, HO.out.kept (grownBy_setCell _ _ _ _) (.inr ?_), grownBy_trans HG.out (grownBy_setCell _ _ _ _), fun k hk => ?_, fun k hk hik => ?_⟩
              · exact Nat.le_trans HDc.out (cnt_mono M lk (i + 1) i (by omega))
              · simp [Value.ownBlock]; omega
              · by_cases hki : k = i
                · subst hki
                  refine ⟨ka, ?_, .inl ⟨R.out, rfl⟩⟩
                  rw [R.out, ← HLK.out]
                  exact World.cell?_setCell_same _ _ _ c1
                · exact (HDone.out k (by omega)).setCell i hki _
              · exact (HMet.out k hk (by omega)).setCell i (by omega) PMB.out _
            case measure => simp [intOf]; omega
          · have h0' : ¬ ((M i).length : Int) = 0 := by omega
            have h0b : (((M i).length : Int) == 0) = false := beq_eq_false_iff_ne.mpr h0'
            have hpos : 0 < (mrg (M i) key).length := mrg_pos _ _ (by omega)
            have hcap : d + (M i).length + lk ≤ N := by
              have := HC.out; rw [HC1.out, if_pos (by omega)] at this; have := HDc.out; omega
            have hml : (mrg (M i) key).length ≤ (M i).length + lk := by rw [HLK.out]; exact mrg_len _ _
            obtain ⟨L, hL⟩ : ∃ L, L = (mrg (M i) key).length := ⟨_, rfl⟩
            obtain ⟨e, he⟩ : ∃ e, e = d + L := ⟨_, rfl⟩
            have AC : Hid (∀ m, m = (M i).length → Calls Yba.prog 15 #[.slice a m c, .slice (some ⟨g, 0, none⟩) d N, .slice ka lk ck] wr fun x w' => x = .returned (.slice (some ⟨g, 0, none⟩) e N) ∧
                w'.ownsRow w.heap.size 36 2 (.slice (some ⟨g, 0, none⟩) e N) e (flat (D ++ mrg (M i) key)) ∧ wr.grownBy w' (some g)) := by
              rintro m rfl
              rw [HLK.out, he, hL]
              exact append_any a ka c ck (M i) key D p p w.heap.size g N d wr HLi.out KK.out (HP.out.2.1 i) HP.out.2.2.2 HPG.out HPG.out HO.out HD.out (by rw [← HLK.out]; exact hcap) (by omega)
            have hsl := slice_piece g d L N (by omega) (by omega) (by omega) e he
            have HL2 : Hid (L = (mrg (M i) key).length) := hL
            have HE2 : Hid (e = d + L) := he
            have heN : e ≤ N := by omega
            have HCe : Hid (e ≤ cnt M lk (i + 1)) := by show e ≤ _; rw [HC1.out, if_pos (by omega)]; have := HDc.out; omega
            rw [← hL] at hpos hml
            obtain ⟨m, hm⟩ : ∃ m, m = (M i).length := ⟨_, rfl⟩
            have AC1 := AC.out m hm
            have AC2 : Hid (Calls Yba.prog 15 #[.slice a m c, .slice (some ⟨g, 0, none⟩) d N, .slice ka lk ck] wr fun x w' => x = .returned (.slice (some ⟨g, 0, none⟩) e N) ∧
                w'.ownsRow w.heap.size 36 2 (.slice (some ⟨g, 0, none⟩) e N) e (flat (D ++ mrg (M i) key)) ∧ wr.grownBy w' (some g)) := AC1
            rw [← hm] at c1 h0b h0' hcap hml h0
            clear AC AC1 hL he hm
            go_wp2_with (go_at_call 15; refine AC2.out.mono ?_; rintro x w2 ⟨rfl, hO2, hG2⟩
                         have O2 : Hid (w2.ownsRow w.heap.size 36 2 (.slice (some ⟨g, 0, none⟩) e N) e (flat (D ++ mrg (M i) key))) := hO2
                         have G2 : Hid (wr.grownBy w2 (some g)) := hG2
                         have c1' := hG2.cell c1 (by simpa using hmg)
                         have fr' : w2.frozen? ⟨mb, i * 2, none⟩ = false := (World.frozen?_of_block (w := wr) (hG2.block mb (World.block_lt_of_cell? _ _ c1) (by simpa using hmg))).trans fr
                         clear hO2 hG2)
            go_roundw
            case rel =>
              refine ⟨i + 1, e, D ++ mrg (M i) key, by omega, by simp, rfl, ?_, HCe, heN, O2.out.kept (grownBy_setCell _ _ _ _) (.inr ?_), grownBy_trans ?_ (grownBy_setCell _ _ _ _), fun k hk => ?_, fun k hk hik => ?_⟩
              · have h1 := HE2.out; have h2 := HD.out; have h3 := HL2.out
                show e = _
                simp; omega
              · simp [Value.ownBlock]; omega
              · refine ⟨G2.out.os.trans HG.out.os, G2.out.tape.trans HG.out.tape, G2.out.output.trans HG.out.output, Nat.le_trans HG.out.size G2.out.size, fun b hb hne => ?_⟩
                exact (G2.out.block b (Nat.lt_of_lt_of_le hb HG.out.size) (by simp; omega)).trans (HG.out.block b hb hne)
              · by_cases hki : k = i
                · subst hki
                  refine ⟨some ⟨g, d * 2, none⟩, ?_, .inr ⟨d, rfl, ?_, ?_⟩⟩
                  · rw [← HL2.out]
                    exact World.cell?_setCell_same _ _ _ c1'
                  · rw [HD.out]; simp
                  · rw [HD.out]; simp
                · exact ((HDone.out k (by omega)).grown G2.out hmg _).setCell i hki _
              · exact ((HMet.out k hk (by omega)).grown G2.out hmg HPG.out).setCell i (by omega) PMB.out _
            case measure => simp [intOf]; omega
        · obtain rfl : n = i := by omega
          go_wp2
          go_end0
          refine ⟨rfl, HG.out, fun k hk => ?_⟩
          exact (HDone.out k hk).labs (HK.out.kept HG.out.size (fun b pb hlt => HG.out.block b hlt (by simpa using (HP.out.1 b pb).1))) HD.out HO.out
end Go.Proofs.Ybulkadpk
