import Derived.Test.YbulkadlcBld
import Derived.Test.YbulkadlcFin
namespace Go.Proofs.Ybulkadlc
open Go.RowKit Go.QuietTail
set_option linter.unusedVariables false
set_option linter.unusedSimpArgs false

theorem peersL_nodup_nil (s : List (List Int)) : ∀ (p : List (List Int)), (p ++ s).Nodup → peersL p s = p ++ s := by
  induction s with
  | nil => intro p _; simp [peersL]
  | cons a s ih =>
    intro p h
    have hna : a ∉ p := fun hin => by
      rw [List.nodup_append] at h
      exact h.2.2 a hin a (by simp) rfl
    have h2 : ((p ++ [a]) ++ s).Nodup := by simpa using h
    have := ih (p ++ [a]) h2
    unfold peersL at *
    rw [List.foldl_cons, if_neg hna, this]
    simp
theorem near_table {me : List Int} {p s : List (List Int)} (h : ∃ X, Near (kd me false) X p ∧ Near (kd me true) X s) : Near (kd me false) (peersL p s) p ∧ Near (kd me true) (peersL p s) s := by
  obtain ⟨X, h1, h2⟩ := h
  have hX : ∀ x ∈ peersL p s, x ∈ X := fun x hx => ((peersL_mem s p x).1 hx).elim (h1.sub x) (h2.sub x)
  exact ⟨h1.mono _ hX (fun x hx => (peersL_mem s p x).2 (.inl hx)), h2.mono _ hX (fun x hx => (peersL_mem s p x).2 (.inr hx))⟩
theorem same_of_mem {me d : List Int} {p s p' s' : List (List Int)} (h : ∃ X, Near (kd me false) X p ∧ Near (kd me true) X s) (hd : d ∈ peersL p s) (h1 : Near (kd me false) (peersL p s ++ [d]) p') (h2 : Near (kd me true) (peersL p s ++ [d]) s') : p' = p ∧ s' = s := by
  obtain ⟨t1, t2⟩ := near_table h
  have he : ∀ x, x ∈ peersL p s ++ [d] ↔ x ∈ peersL p s := fun x => by
    rw [List.mem_append, List.mem_singleton]
    exact ⟨fun h => h.elim (fun h => h) (fun e => e ▸ hd), .inl⟩
  exact ⟨near_uniq _ h1 t1 he, near_uniq _ h2 t2 he⟩
/-- What lies in the law's own memory. -/
structure CSt (w wr : World) (me d : List Int) (p s : List (List Int)) (vp vs va vb : Value) (b1 N b3 : Nat) : Prop where
  h1 : Blk wr b1 me
  h2 : NT wr N me vp vs
  h3 : Blk wr b3 d
  h4 : IdsR wr vp p
  h5 : IdsR wr vs s
  h6 : IdsR wr va p
  h7 : IdsR wr vb s
  h8 : Below w.heap.size w wr
theorem CSt.later {w wr w' : World} {me d : List Int} {p s : List (List Int)} {vp vs va vb : Value} {b1 N b3 : Nat} (h : CSt w wr me d p s vp vs va vb b1 N b3) (hb : Below wr.heap.size wr w') : CSt w w' me d p s vp vs va vb b1 N b3 :=
  ⟨h.h1.later hb, h.h2.later hb, h.h3.later hb, h.h4.later hb, h.h5.later hb, h.h6.later hb, h.h7.later hb, h.h8.trans (hb.mono h.h8.size)⟩

set_option maxHeartbeats 4000000 in
set_option maxRecDepth 100000 in
theorem lawC_walk (sh sl qh ql : Int) (a : Option Addr) (n c : Nat) (zs : List Stp) (w : World) (a0 : 0 ≤ sh) (a1 : sh < 18446744073709551616) (a2 : 0 ≤ sl) (a3 : sl < 18446744073709551616) (b0 : 0 ≤ qh) (b1 : qh < 18446744073709551616) (b2 : 0 ≤ ql) (b3 : ql < 18446744073709551616)
    (hz : ∀ z ∈ zs, StOk z) (hn : zs.length = n) (hl : n ≤ 256) (hI : StIn w a zs) :
    Calls Yba.prog 4 #[.int .u64 sh, .int .u64 sl, .slice a n c, .int .u64 qh, .int .u64 ql] w fun e w' => e = .returned (.bool true) ∧ Below w.heap.size w w' := by
  have hme : IdOk (ofW sh sl) := ofW_ok a0 a1 a2 a3
  have hd : IdOk (ofW qh ql) := ofW_ok b0 b1 b2 b3
  have HF1 : Hid (∀ W, Calls Yba.prog 13 #[.int .u64 sh, .int .u64 sl] W fun e w' => e = .returned (idv (ofW sh sl)) ∧ Below W.heap.size W w') := fun W => fromWords_any sh sl a0 a1 a2 a3 W
  have HF2 : Hid (∀ W, Calls Yba.prog 13 #[.int .u64 qh, .int .u64 ql] W fun e w' => e = .returned (idv (ofW qh ql)) ∧ Below W.heap.size W w') := fun W => fromWords_any qh ql b0 b1 b2 b3 W
  have HI : Hid (StIn w a zs) := hI
  have HN : Hid (zs.length = n) := hn
  generalize ofW sh sl = me at *
  generalize ofW qh ql = d at *
  clear hn hI
  go_enter Yba.func4, Yba.ntmps4
  go_wp2_with fail
  refine (HF1.out _).mono ?_
  rintro e w1 ⟨rfl, hb1⟩
  have HB1 : Hid (Below w.heap.size w w1) := hb1
  clear hb1
  unfold idv
  go_wp2_with (first | (refine wpList_store_id rfl (.tmp 11) (.tmp 32) rfl _ rfl me hme.1 rfl zero16 rfl (Blk.new w1 zero16) ?_; intro w2 hB2 hg2; have L2 : Below w1.heap.size w1 w2 := ((Below.refl _ w1).alloc (Nat.le_refl _) _).grown hg2 (by simp) (by rintro k ⟨⟩; exact Nat.le_refl _); have HM2 : Hid (Blk w2 w1.heap.size me) := hB2; have HB2 : Hid (Below w.heap.size w w2) := HB1.out.trans (L2.mono HB1.out.size); clear hB2 hg2 L2) | (refine wpList_load_id rfl (.tmp 11) rfl _ rfl me hme.1 HM2.out ?_))
  refine (build_any me a n c zs hme hz HN.out hl w2 (fun h0 => by
    obtain ⟨b, o, e, hb, hc⟩ := HI.out h0
    refine ⟨b, o, e, Nat.lt_of_lt_of_le hb HB2.out.size, fun j z hj => ?_⟩
    obtain ⟨k0, k1, k2⟩ := hc j z hj
    exact ⟨by rw [HB2.out.cell (p := ⟨b, o + j * 3, none⟩) hb]; exact k0, by rw [HB2.out.cell (p := ⟨b, o + j * 3 + 1, none⟩) hb]; exact k1, by rw [HB2.out.cell (p := ⟨b, o + j * 3 + 2, none⟩) hb]; exact k2⟩)).mono ?_
  rintro e w3 ⟨p, s, p1, n1, c1, p2, n2, c2, rfl, ⟨hP, hS, hp, hs, hnear⟩, hb3⟩
  have HM3 : Hid (Blk w3 w1.heap.size me) := HM2.out.later hb3
  have HB3 : Hid (Below w.heap.size w w3) := HB2.out.trans (hb3.mono HB2.out.size)
  have HP3 : Hid (IdsR w3 (.slice p1 n1 c1) p ∧ IdsR w3 (.slice p2 n2 c2) s) := ⟨hP, hS⟩
  have HNR : Hid (∃ X, Near (kd me false) X p ∧ Near (kd me true) X s) := hnear
  clear hP hS hnear hb3 HM2
  have HNZ : Hid (NT (w3.alloc (.cells (ntC zero16 (.slice none 0 0) (.slice none 0 0)).toArray 30)) w3.heap.size zero16 (.slice none 0 0) (.slice none 0 0)) := NT.new w3 zero16 _ _
  go_wp2_with (first | (refine wpList_store_nt rfl (.tmp 12) (.tmp 35) rfl _ rfl me hme.1 p1 p2 n1 c1 n2 c2 rfl zero16 rfl (.slice none 0 0) (.slice none 0 0) HNZ.out ?_; intro w4 hN4 hg4; have L4 : Below w3.heap.size w3 w4 := ((Below.refl _ w3).alloc (Nat.le_refl _) _).grown hg4 (by simp) (by rintro k ⟨⟩; exact Nat.le_refl _); have HN4 : Hid (NT w4 w3.heap.size me (.slice p1 n1 c1) (.slice p2 n2 c2)) := hN4; have HL4 : Hid (Below w3.heap.size w3 w4) := L4; clear hN4 hg4 L4))
  refine (HF2.out _).mono ?_
  rintro e w5 ⟨rfl, hb5⟩
  have HL5 : Hid (Below w3.heap.size w3 w5) := HL4.out.trans (hb5.mono HL4.out.size)
  have HN5 : Hid (NT w5 w3.heap.size me (.slice p1 n1 c1) (.slice p2 n2 c2)) := HN4.out.later hb5
  clear hb5 HN4 HL4 HNZ
  unfold idv
  have lp : p.length ≤ 3 := let ⟨X, h, _⟩ := HNR.out; h.len
  have ls : s.length ≤ 3 := let ⟨X, _, h⟩ := HNR.out; h.len
  have HM5 : Hid (Blk w5 w1.heap.size me) := HM3.out.later HL5.out
  have HB5 : Hid (Below w.heap.size w w5) := HB3.out.trans (HL5.out.mono HB3.out.size)
  have HP5 : Hid (IdsR w5 (.slice p1 n1 c1) p ∧ IdsR w5 (.slice p2 n2 c2) s) := ⟨HP3.out.1.later HL5.out, HP3.out.2.later HL5.out⟩
  clear HM3 HB3 HP3 HL5 HB1 HB2
  obtain ⟨N, hNN⟩ : ∃ N, N = w3.heap.size := ⟨_, rfl⟩
  rw [← hNN] at HN5 ⊢
  clear hNN
  go_wp2_with (first | (refine wpList_store_id rfl (.tmp 13) (.tmp 38) rfl _ rfl d hd.1 rfl zero16 rfl (Blk.new w5 zero16) ?_; intro w6 hB6 hg6; have L6 : Below w5.heap.size w5 w6 := ((Below.refl _ w5).alloc (Nat.le_refl _) _).grown hg6 (by simp) (by rintro k ⟨⟩; exact Nat.le_refl _); have HD6 : Hid (Blk w6 w5.heap.size d) := hB6; have HN6 : Hid (NT w6 N me (.slice p1 n1 c1) (.slice p2 n2 c2)) := HN5.out.later L6; have HP6 : Hid (IdsR w6 (.slice p1 n1 c1) p ∧ IdsR w6 (.slice p2 n2 c2) s) := ⟨HP5.out.1.later L6, HP5.out.2.later L6⟩; have HM6 : Hid (Blk w6 w1.heap.size me) := HM5.out.later L6; have HB6 : Hid (Below w.heap.size w w6) := HB5.out.trans (L6.mono HB5.out.size); have c16 := HN6.out.cP hme.1; clear hB6 hg6 L6))
  refine (HP6.out.1.clone hp (by omega)).mono ?_
  rintro e w7 ⟨va, rfl, hIa, hb7⟩
  obtain ⟨pa, na, ca, rfl⟩ := hIa.form2
  have HIa : Hid (IdsR w7 (.slice pa na ca) p) := hIa.r hp
  have HN7 : Hid (NT w7 N me (.slice p1 n1 c1) (.slice p2 n2 c2)) := HN6.out.later hb7
  have HP7 : Hid (IdsR w7 (.slice p1 n1 c1) p ∧ IdsR w7 (.slice p2 n2 c2) s) := ⟨HP6.out.1.later hb7, HP6.out.2.later hb7⟩
  have HX7 : Hid (Blk w7 w1.heap.size me ∧ Blk w7 w5.heap.size d ∧ Below w.heap.size w w7) := ⟨HM6.out.later hb7, HD6.out.later hb7, HB6.out.trans (hb7.mono HB6.out.size)⟩
  have c17 := HN7.out.cS hme.1
  clear hIa hb7 HN6 HP6 HM6 HD6 HB6 HN5 HP5 HM5 HB5 c16
  go_wp2_with fail
  refine (HP7.out.2.clone hs (by omega)).mono ?_
  rintro e w8 ⟨vb, rfl, hIb, hb8⟩
  obtain ⟨pb, nb, cb, rfl⟩ := hIb.form2
  have HC8 : Hid (CSt w w8 me d p s (.slice p1 n1 c1) (.slice p2 n2 c2) (.slice pa na ca) (.slice pb nb cb) w1.heap.size N w5.heap.size) := ⟨HX7.out.1.later hb8, HN7.out.later hb8, HX7.out.2.1.later hb8, HP7.out.1.later hb8, HP7.out.2.later hb8, HIa.out.later hb8, hIb.r hs, HX7.out.2.2.trans (hb8.mono HX7.out.2.2.size)⟩
  clear hIb hb8 HX7 HN7 HP7 HIa c17
  obtain ⟨e1, he1⟩ : ∃ k, k = w1.heap.size := ⟨_, rfl⟩
  obtain ⟨e3, he3⟩ : ∃ k, k = w5.heap.size := ⟨_, rfl⟩
  rw [← he1, ← he3] at HC8 ⊢
  clear he1 he3
  go_wp2_with (refine wpList_load_id rfl (.tmp 13) rfl _ rfl d hd.1 HC8.out.h3 ?_)
  refine (belongs_any N me d p s hme hd w8 ⟨⟨_, _, HC8.out.h2, HC8.out.h4, HC8.out.h5, fun _ _ _ _ _ => Nat.zero_le _, fun _ _ _ _ _ => Nat.zero_le _⟩, hp, hs, HNR.out⟩).mono ?_
  rintro e w9 ⟨⟨p', s', hcase⟩, hb9⟩
  obtain ⟨got, hgot, hspec⟩ : ∃ got, e = .returned (.bool got) ∧ ((d = me ∧ got = false) ∨ (d ≠ me ∧ Near (kd me false) (peersL p s ++ [d]) p' ∧ Near (kd me true) (peersL p s ++ [d]) s' ∧ got = (!decide (p' = p) || !decide (s' = s)))) := by
    rcases hcase with ⟨h1, h2⟩ | ⟨h1, h2, h3, h4⟩
    · exact ⟨_, h2, .inl ⟨h1, rfl⟩⟩
    · exact ⟨_, h4, .inr ⟨h1, h2, h3, rfl⟩⟩
  subst hgot
  have HSP : Hid _ := hspec
  have HC9 : Hid (CSt w w9 me d p s (.slice p1 n1 c1) (.slice p2 n2 c2) (.slice pa na ca) (.slice pb nb cb) e1 N e3) := HC8.out.later hb9
  clear hcase hspec hb9 HC8
  have ng := noGuard23
  have eqm : ∀ w, (Op.equalIn 10000 23 (.agg (cellsId me).toArray) (.agg (cellsId me).toArray)).run Yba.prog w = .ok true w := fun w => by rw [run_eql_id me me hme.1 hme.1 w]; simp
  have c16 := HC9.out.h2.cP hme.1
  have HE1 : Hid (Calls Yba.prog 16 #[.slice p1 n1 c1, .slice pa na ca] w9 fun e w' => e = .returned (.bool true) ∧ Below w9.heap.size w9 w') := by
    have := equal_any _ _ p p hp hp (by omega) (by omega) w9 HC9.out.h4 HC9.out.h6
    rw [decide_eq_true (rfl : p = p)] at this
    exact this
  have HE2 : Hid (∀ W, Below w9.heap.size w9 W → Calls Yba.prog 16 #[.slice p2 n2 c2, .slice pb nb cb] W fun e w' => e = .returned (.bool true) ∧ Below W.heap.size W w') := fun W hW => by
    have := equal_any _ _ s s hs hs (by omega) (by omega) W (HC9.out.later hW).h5 (HC9.out.later hW).h7
    rw [decide_eq_true (rfl : s = s)] at this
    exact this
  go_wp2_with (first | (refine wpList_load_mid rfl 23 (.tmp 47) rfl _ _ rfl (cellsId me) _ HC9.out.h2.me Yba.underlying23 rfl (by rw [info23]; simp [cellsId, hme.1]) ?_) | (refine wpList_load_id rfl (.tmp 11) rfl _ rfl me hme.1 HC9.out.h1 ?_) | (go_at_call 16; refine (HE2.out w10 HB10.out).mono ?_; rintro e w11 ⟨rfl, hb11⟩; have HC11 : Hid (CSt w w11 me d p s (.slice p1 n1 c1) (.slice p2 n2 c2) (.slice pa na ca) (.slice pb nb cb) e1 N e3) := HC10.out.later hb11; clear hb11) | (go_at_call 16; refine HE1.out.mono ?_; rintro e w10 ⟨rfl, hb10⟩; have HB10 : Hid (Below w9.heap.size w9 w10) := hb10; have HC10 : Hid (CSt w w10 me d p s (.slice p1 n1 c1) (.slice p2 n2 c2) (.slice pa na ca) (.slice pb nb cb) e1 N e3) := HC9.out.later hb10; have c17 := HC10.out.h2.cS hme.1; clear hb10))
  clear c16 c17 HC9 HC10 HE1 HE2 HB10 eqm
  obtain ⟨i0, hi0, hz0, hz1, hz2⟩ := info_parts info23z
  have HLN67 : Hid (p.length = na) := by
    obtain ⟨q, cc, h1, _⟩ := HC11.out.h6
    simp at h1
    exact h1.2.1.symm
  have hna : na ≤ 3 := by have := HLN67.out; omega
  have HRD67 : Hid (0 < na → ∃ b o, pa = some ⟨b, o, none⟩ ∧ b < w11.heap.size ∧ ∀ j x, p[j]? = some x → w11.rangeAt b (o + j * 16) (cellsId x)) := fun h0 => by
    obtain ⟨q, cc, h1, _, h3⟩ := HC11.out.h6
    simp at h1
    obtain ⟨b, o, e, hb, hr⟩ := h3 (by have := HLN67.out; omega)
    exact ⟨b, o, h1.1.trans e, hb, hr⟩
  have HST67 : Hid (Ids w11 w11.heap.size (.slice none 0 0) (peersL [] (p.take 0)) ∧ Below w11.heap.size w11 w11) := ⟨World.ownsRow_nil _ _ _ _, Below.refl _ _⟩
  have HACC67 : Hid (IsOk []) := fun x hx => by simp at hx
  go_loopw [17, 67] (fun u t wr => ∃ j : Nat, t = .int .i64 j ∧ j ≤ na ∧ Hid (Ids wr w11.heap.size u (peersL [] (p.take j)) ∧ Below w11.heap.size w11 wr)) (fun u t wr => (na - intOf t).toNat)
  case atStart => exact ⟨0, rfl, Nat.zero_le _, HST67.out⟩
  case round =>
    obtain ⟨j, rfl, hjn, HH⟩ := hrel
    by_cases hlt : j < na
    · have hlt' : (j : Int) < (na : Int) := by omega
      obtain ⟨x, hx⟩ : ∃ x, p[j]? = some x := ⟨_, List.getElem?_eq_getElem (by have := HLN67.out; omega)⟩
      have hxo := hp.at hx
      obtain ⟨b, f, e0, t1, r1⟩ := HRD67.out (by omega)
      subst e0
      have LD : Hid (wr.rangeAt b (f + j * 16) (cellsId x)) := fun t u ht => by
        rw [HH.out.2.cell (p := ⟨b, f + j * 16 + t, none⟩) t1]
        exact r1 j x hx t u ht
      obtain ⟨pv, pn, pc', hu3⟩ := HH.out.1.form2
      subst hu3
      have hpl : (peersL [] (p.take j)).length ≤ 128 := by
        have h1 := peersL_len (p.take j) []
        rw [List.length_take] at h1
        simp at h1
        omega
      have hpo : IsOk (peersL [] (p.take j)) := peersL_ok HACC67.out (fun y hy => hp y (List.mem_of_mem_take hy))
      have HT : Hid (peersL [] (p.take (j + 1)) = if x ∈ peersL [] (p.take j) then peersL [] (p.take j) else peersL [] (p.take j) ++ [x]) := by
        show _ = _
        rw [List.take_add_one, hx]
        exact peersL_snoc [] (p.take j) x
      obtain ⟨PL, hPL⟩ : ∃ PL, PL = peersL [] (p.take j) := ⟨_, rfl⟩
      rw [← hPL] at HT HH hpl hpo
      clear hPL r1 hx
      obtain ⟨hr, hhr⟩ : ∃ hr, hr = decide (x ∈ PL) := ⟨_, rfl⟩
      have HHR : Hid (hr = decide (x ∈ PL)) := hhr
      clear hhr
      go_wp2_with (first | (refine wpList_load_mid rfl 23 (.tmp 69) rfl _ _ rfl (cellsId x) _ LD.out Yba.underlying23 rfl (by rw [info23]; simp [cellsId, hxo.1]) ?_) | (refine wpList_store_id rfl (.tmp 19) (.tmp 70) rfl _ rfl x hxo.1 rfl zero16 rfl (Blk.new wr zero16) ?_; intro w4' hB4 hg4; have L4 : Below wr.heap.size wr w4' := ((Below.refl _ wr).alloc (Nat.le_refl _) _).grown hg4 (by simp) (by rintro k ⟨⟩; exact Nat.le_refl _); have HB4 : Hid (Blk w4' wr.heap.size x) := hB4; have HL4 : Hid (Below wr.heap.size wr w4') := L4; clear hB4 hg4 L4) | (refine wpList_load_id rfl (.tmp 19) rfl _ rfl x hxo.1 HB5'.out ?_) | (refine wpList_load_id rfl (.tmp 19) rfl _ rfl x hxo.1 HB4.out ?_) | (go_at_call 17; refine (has_any _ PL x hxo hpo (by omega) w4' ((HH.out.1.later HL4.out).r hpo)).mono ?_; rintro e w5' ⟨rfl, hb5⟩; rw [← HHR.out]; have HL5' : Hid (Below wr.heap.size wr w5') := HL4.out.trans (hb5.mono HL4.out.size); have HB5' : Hid (Blk w5' wr.heap.size x) := HB4.out.later hb5; clear hb5) | (refine wpList_bs rfl (.tmp 76) rfl x hxo.1 rfl ?_) | (at_builtin; refine wpList_append_own _ rfl (.tmp 75) (.tmp 77) 24 rfl w11.heap.size 23 i0 zeroI 16 16 Yba.underlying24 hi0 hz0 hz1 hz2 zeroI_size (by omega) _ PL.length (flatI PL) rfl (World.ownsRow.alloc (HH.out.1.later HL5'.out) _) ⟨w5'.heap.size, 0, none⟩ 1 1 (cellsId x) rfl (by rw [cellsId_len hxo]) (Blk.new w5' x).cells' (cellsId_one x) (by unfold maxLen; omega) (by omega) (by have := HH.out.2.size; have := HL5'.out.size; simp; omega) ?_; intro v6 w6' hO6 hG6 hnil6))
      · rename (!hr) = true => hq
        have HQ : Hid (x ∉ PL) := fun hin => by
          have h1 := HHR.out
          rw [decide_eq_true hin] at h1
          rw [h1] at hq
          cases hq
        clear hq
        go_roundw
        case rel =>
          have L5 : Below w11.heap.size w11 (w5'.alloc (.cells (cellsId x).toArray 23)) := (HH.out.2.trans (HL5'.out.mono HH.out.2.size)).alloc (Nat.le_trans HH.out.2.size HL5'.out.size) _
          refine ⟨j + 1, by simp, by omega, ?_, L5.grown hG6 L5.size (fun k hk => (World.ownsRow.lt HH.out.1 k hk).1)⟩
          rw [HT.out, if_neg HQ.out]
          unfold Ids
          rw [flatI_append, List.length_append]
          simpa [flatI] using hO6
        case measure => simp [intOf]; omega
      · rename (!hr) = false => hq
        have hin2 : x ∈ PL := Classical.byContradiction fun hin => by
          have h1 := HHR.out
          rw [decide_eq_false hin] at h1
          rw [h1] at hq
          cases hq
        have HQ : Hid (x ∈ PL) := hin2
        clear hq hin2
        go_roundw
        case rel =>
          refine ⟨j + 1, by simp, by omega, ?_, HH.out.2.trans (HL5'.out.mono HH.out.2.size)⟩
          rw [HT.out, if_pos HQ.out]
          exact HH.out.1.later HL5'.out
        case measure => simp [intOf]; omega
    · have hlt' : ¬ (j : Int) < (na : Int) := by omega
      obtain rfl : na = j := by omega
      have HE67 : Hid (Ids wr w11.heap.size u17 (peersL [] p) ∧ Below w11.heap.size w11 wr) := by
        have h1 := HH.out
        rw [List.take_of_length_le (by have := HLN67.out; omega)] at h1
        exact h1
      have HPN : Hid (peersL [] p = p) := by
        obtain ⟨X, h1, _⟩ := HNR.out
        exact peersL_nodup_nil p [] (by simpa using h1.srt.nodup)
      obtain ⟨wA, hwA⟩ : ∃ wA, wA = wr := ⟨_, rfl⟩
      subst hwA
      have HLN82 : Hid (s.length = nb) := by
        obtain ⟨q, cc, h1, _⟩ := HC11.out.h7
        simp at h1
        exact h1.2.1.symm
      have hnb : nb ≤ 3 := by have := HLN82.out; omega
      have HRD82 : Hid (0 < nb → ∃ b o, pb = some ⟨b, o, none⟩ ∧ b < w11.heap.size ∧ ∀ j x, s[j]? = some x → w11.rangeAt b (o + j * 16) (cellsId x)) := fun h0 => by
        obtain ⟨q, cc, h1, _, h3⟩ := HC11.out.h7
        simp at h1
        obtain ⟨b, o, e, hb, hr⟩ := h3 (by have := HLN82.out; omega)
        exact ⟨b, o, h1.1.trans e, hb, hr⟩
      have HST82 : Hid (Ids wA w11.heap.size u17 (peersL p (s.take 0)) ∧ Below w11.heap.size w11 wA) := by
        have h1 := HE67.out
        rw [HPN.out] at h1
        exact h1
      have HACC82 : Hid (IsOk p) := hp
      clear HH HE67 HST67 HRD67
      go_wp2
      go_loopw [17, 82] (fun u t wr => ∃ j : Nat, t = .int .i64 j ∧ j ≤ nb ∧ Hid (Ids wr w11.heap.size u (peersL p (s.take j)) ∧ Below w11.heap.size w11 wr)) (fun u t wr => (nb - intOf t).toNat)
      case atStart => exact ⟨0, rfl, Nat.zero_le _, HST82.out⟩
      case round =>
        obtain ⟨j, rfl, hjn, HH⟩ := hrel
        by_cases hlt : j < nb
        · have hlt' : (j : Int) < (nb : Int) := by omega
          obtain ⟨x, hx⟩ : ∃ x, s[j]? = some x := ⟨_, List.getElem?_eq_getElem (by have := HLN82.out; omega)⟩
          have hxo := hs.at hx
          obtain ⟨b, f, e0, t1, r1⟩ := HRD82.out (by omega)
          subst e0
          have LD : Hid (wr.rangeAt b (f + j * 16) (cellsId x)) := fun t u ht => by
            rw [HH.out.2.cell (p := ⟨b, f + j * 16 + t, none⟩) t1]
            exact r1 j x hx t u ht
          obtain ⟨pv, pn, pc', hu3⟩ := HH.out.1.form2
          subst hu3
          have hpl : (peersL p (s.take j)).length ≤ 128 := by
            have h1 := peersL_len (s.take j) p
            rw [List.length_take] at h1
            omega
          have hpo : IsOk (peersL p (s.take j)) := peersL_ok HACC82.out (fun y hy => hs y (List.mem_of_mem_take hy))
          have HT : Hid (peersL p (s.take (j + 1)) = if x ∈ peersL p (s.take j) then peersL p (s.take j) else peersL p (s.take j) ++ [x]) := by
            show _ = _
            rw [List.take_add_one, hx]
            exact peersL_snoc p (s.take j) x
          obtain ⟨PL, hPL⟩ : ∃ PL, PL = peersL p (s.take j) := ⟨_, rfl⟩
          rw [← hPL] at HT HH hpl hpo
          clear hPL r1 hx
          obtain ⟨hr, hhr⟩ : ∃ hr, hr = decide (x ∈ PL) := ⟨_, rfl⟩
          have HHR : Hid (hr = decide (x ∈ PL)) := hhr
          clear hhr
          go_wp2_with (first | (refine wpList_load_mid rfl 23 (.tmp 84) rfl _ _ rfl (cellsId x) _ LD.out Yba.underlying23 rfl (by rw [info23]; simp [cellsId, hxo.1]) ?_) | (refine wpList_store_id rfl (.tmp 21) (.tmp 85) rfl _ rfl x hxo.1 rfl zero16 rfl (Blk.new wr zero16) ?_; intro w4' hB4 hg4; have L4 : Below wr.heap.size wr w4' := ((Below.refl _ wr).alloc (Nat.le_refl _) _).grown hg4 (by simp) (by rintro k ⟨⟩; exact Nat.le_refl _); have HB4 : Hid (Blk w4' wr.heap.size x) := hB4; have HL4 : Hid (Below wr.heap.size wr w4') := L4; clear hB4 hg4 L4) | (refine wpList_load_id rfl (.tmp 21) rfl _ rfl x hxo.1 HB5'.out ?_) | (refine wpList_load_id rfl (.tmp 21) rfl _ rfl x hxo.1 HB4.out ?_) | (go_at_call 17; refine (has_any _ PL x hxo hpo (by omega) w4' ((HH.out.1.later HL4.out).r hpo)).mono ?_; rintro e w5' ⟨rfl, hb5⟩; rw [← HHR.out]; have HL5' : Hid (Below wr.heap.size wr w5') := HL4.out.trans (hb5.mono HL4.out.size); have HB5' : Hid (Blk w5' wr.heap.size x) := HB4.out.later hb5; clear hb5) | (refine wpList_bs rfl (.tmp 91) rfl x hxo.1 rfl ?_) | (at_builtin; refine wpList_append_own _ rfl (.tmp 90) (.tmp 92) 24 rfl w11.heap.size 23 i0 zeroI 16 16 Yba.underlying24 hi0 hz0 hz1 hz2 zeroI_size (by omega) _ PL.length (flatI PL) rfl (World.ownsRow.alloc (HH.out.1.later HL5'.out) _) ⟨w5'.heap.size, 0, none⟩ 1 1 (cellsId x) rfl (by rw [cellsId_len hxo]) (Blk.new w5' x).cells' (cellsId_one x) (by unfold maxLen; omega) (by omega) (by have := HH.out.2.size; have := HL5'.out.size; simp; omega) ?_; intro v6 w6' hO6 hG6 hnil6))
          · rename (!hr) = true => hq
            have HQ : Hid (x ∉ PL) := fun hin => by
              have h1 := HHR.out
              rw [decide_eq_true hin] at h1
              rw [h1] at hq
              cases hq
            clear hq
            go_roundw
            case rel =>
              have L5 : Below w11.heap.size w11 (w5'.alloc (.cells (cellsId x).toArray 23)) := (HH.out.2.trans (HL5'.out.mono HH.out.2.size)).alloc (Nat.le_trans HH.out.2.size HL5'.out.size) _
              refine ⟨j + 1, by simp, by omega, ?_, L5.grown hG6 L5.size (fun k hk => (World.ownsRow.lt HH.out.1 k hk).1)⟩
              rw [HT.out, if_neg HQ.out]
              unfold Ids
              rw [flatI_append, List.length_append]
              simpa [flatI] using hO6
            case measure => simp [intOf]; omega
          · rename (!hr) = false => hq
            have hin2 : x ∈ PL := Classical.byContradiction fun hin => by
              have h1 := HHR.out
              rw [decide_eq_false hin] at h1
              rw [h1] at hq
              cases hq
            have HQ : Hid (x ∈ PL) := hin2
            clear hq hin2
            go_roundw
            case rel =>
              refine ⟨j + 1, by simp, by omega, ?_, HH.out.2.trans (HL5'.out.mono HH.out.2.size)⟩
              rw [HT.out, if_pos HQ.out]
              exact HH.out.1.later HL5'.out
            case measure => simp [intOf]; omega
        · have hlt' : ¬ (j : Int) < (nb : Int) := by omega
          obtain rfl : nb = j := by omega
          have HEH : Hid (Ids wr w11.heap.size u17 (peersL p s) ∧ Below w11.heap.size w11 wr) := by
            have h1 := HH.out
            rw [List.take_of_length_le (by have := HLN82.out; omega)] at h1
            exact h1
          have HCE : Hid (CSt w wr me d p s (.slice p1 n1 c1) (.slice p2 n2 c2) (.slice pa na ca) (.slice pb nb cb) e1 N e3) := HC11.out.later HEH.out.2
          clear HH HST82 HRD82
          by_cases hdm : d = me
          · have eq1 : ∀ w, (Op.equalIn 10000 23 (.agg (cellsId d).toArray) (.agg (cellsId me).toArray)).run Yba.prog w = .ok true w := fun w => by rw [run_eql_id d me hd.1 hme.1 w, decide_eq_true hdm]
            have hgf : got = false := by
              rcases HSP.out with ⟨_, h⟩ | ⟨h, _⟩
              · exact h
              · exact absurd hdm h
            subst hgf
            clear hdm
            go_wp2_with (first | (refine wpList_load_id rfl (.tmp 13) rfl _ rfl d hd.1 HCE.out.h3 ?_) | (refine wpList_load_id rfl (.tmp 11) rfl _ rfl me hme.1 HCE.out.h1 ?_))
            go_ret
            exact ⟨rfl, HCE.out.h8⟩
          · have eq1 : ∀ w, (Op.equalIn 10000 23 (.agg (cellsId d).toArray) (.agg (cellsId me).toArray)).run Yba.prog w = .ok false w := fun w => by rw [run_eql_id d me hd.1 hme.1 w, decide_eq_false hdm]
            have hHo : IsOk (peersL p s) := peersL_ok hp hs
            have hHl : (peersL p s).length ≤ 64 := Nat.le_trans (peersL_len s p) (by omega)
            have HS2 : Hid (Near (kd me false) (peersL p s ++ [d]) p' ∧ Near (kd me true) (peersL p s ++ [d]) s' ∧ got = (!decide (p' = p) || !decide (s' = s))) := by
              rcases HSP.out with ⟨h, _⟩ | ⟨_, h⟩
              · exact absurd h hdm
              · exact h
            have HHA : Hid (Calls Yba.prog 17 #[u17, .agg (cellsId d).toArray] wr fun e w' => e = .returned (.bool (decide (d ∈ peersL p s))) ∧ Below wr.heap.size wr w') := has_any u17 (peersL p s) d hd hHo (by omega) wr (HEH.out.1.r hHo)
            have HDM : Hid (¬ d = me) := hdm
            clear hdm HSP
            by_cases hin : d ∈ peersL p s
            · have hgf : got = false := by
                obtain ⟨t1, t2⟩ := same_of_mem HNR.out hin HS2.out.1 HS2.out.2.1
                rw [HS2.out.2.2, t1, t2]
                simp
              subst hgf
              have HHB : Hid (Calls Yba.prog 17 #[u17, .agg (cellsId d).toArray] wr fun e w' => e = .returned (.bool true) ∧ Below wr.heap.size wr w') := by
                have h1 := HHA.out
                rw [decide_eq_true hin] at h1
                exact h1
              clear hin HHA
              go_wp2_with (first | (refine wpList_load_midG rfl 23 (.tmp 13) rfl _ _ rfl (cellsId d) _ HCE.out.h3.range Yba.underlying23 rfl (by rw [info23]; simp [cellsId, hd.1]) ?_) | (refine wpList_load_id rfl (.tmp 11) rfl _ rfl me hme.1 HCE.out.h1 ?_) | (go_at_call 17; refine HHB.out.mono ?_; rintro e wt ⟨rfl, hbt⟩; have HBT : Hid _ := hbt; clear hbt))
              go_ret
              exact ⟨rfl, HCE.out.h8.trans (HBT.out.mono HCE.out.h8.size)⟩
            · have HHB : Hid (Calls Yba.prog 17 #[u17, .agg (cellsId d).toArray] wr fun e w' => e = .returned (.bool false) ∧ Below wr.heap.size wr w') := by
                have h1 := HHA.out
                rw [decide_eq_false hin] at h1
                exact h1
              have HIN : Hid (d ∉ peersL p s) := hin
              clear hin HHA
              obtain ⟨pv, pn, pc', hu3⟩ := HEH.out.1.form2
              subst hu3
              go_wp2_with (first | (refine wpList_load_midG rfl 23 (.tmp 13) rfl _ _ rfl (cellsId d) _ HCE.out.h3.range Yba.underlying23 rfl (by rw [info23]; simp [cellsId, hd.1]) ?_) | (refine wpList_load_id rfl (.tmp 11) rfl _ rfl me hme.1 HCE.out.h1 ?_) | (go_at_call 17; refine HHB.out.mono ?_; rintro e wt ⟨rfl, hbt⟩; have HBT : Hid (Below wr.heap.size wr wt) := hbt; clear hbt))
              have HHN : Hid ((peersL p s).Nodup) := by
                obtain ⟨X, h1, _⟩ := HNR.out
                exact peersL_nodup s p h1.srt.nodup
              have HNT : Hid (Near (kd me false) (peersL p s) p ∧ Near (kd me true) (peersL p s) s) := near_table HNR.out
              have HIR : Hid (IdsR wt (.slice pv pn pc') (peersL p s)) := (HEH.out.1.later HBT.out).r hHo
              have HCT : Hid (CSt w wt me d p s (.slice p1 n1 c1) (.slice p2 n2 c2) (.slice pa na ca) (.slice pb nb cb) e1 N e3) := HCE.out.later HBT.out
              clear HCE HEH HHB HBT HLN67 HLN82 eq1 hlt' hjn hlt
              obtain ⟨H, hH⟩ : ∃ H, H = peersL p s := ⟨_, rfl⟩
              rw [← hH] at HHN HNT HIR HIN HS2 hHo hHl
              clear hH
              have HLN : Hid (H.length = pn) := by
                obtain ⟨q, cc, h1, _⟩ := HIR.out
                simp at h1
                exact h1.2.1.symm
              have hpn : pn ≤ 64 := by have := HLN.out; omega
              have HRD : Hid (0 < pn → ∃ b o, pv = some ⟨b, o, none⟩ ∧ b < wt.heap.size ∧ ∀ j x, H[j]? = some x → wt.rangeAt b (o + j * 16) (cellsId x)) := fun h0 => by
                obtain ⟨q, cc, h1, _, h3⟩ := HIR.out
                simp at h1
                obtain ⟨b, o, e, hb, hr⟩ := h3 (by have := HLN.out; omega)
                exact ⟨b, o, h1.1.trans e, hb, hr⟩
              clear HIR
              obtain ⟨CS, hCS⟩ : ∃ CS : Nat → Nat, CS = fun k => ((H.take k).filter (fun x => decide (kd me true x < kd me true d))).length := ⟨_, rfl⟩
              obtain ⟨CP, hCP⟩ : ∃ CP : Nat → Nat, CP = fun k => ((H.take k).filter (fun x => decide (kd me false x < kd me false d))).length := ⟨_, rfl⟩
              have HCS : Hid (CS = fun k => ((H.take k).filter (fun x => decide (kd me true x < kd me true d))).length) := hCS
              have HCP : Hid (CP = fun k => ((H.take k).filter (fun x => decide (kd me false x < kd me false d))).length) := hCP
              have HC0 : Hid (CS 0 = 0 ∧ CP 0 = 0) := by show _ ∧ _; rw [hCS, hCP]; simp
              have hcl : ∀ k, CS k ≤ 64 ∧ CP k ≤ 64 := fun k => by
                rw [hCS, hCP]
                have h1 := List.length_filter_le (fun x => decide (kd me true x < kd me true d)) (H.take k)
                have h2 := List.length_filter_le (fun x => decide (kd me false x < kd me false d)) (H.take k)
                rw [List.length_take] at h1 h2
                exact ⟨by show List.length _ ≤ _; omega, by show List.length _ ≤ _; omega⟩
              clear hCS hCP
              go_loopw [23, 24, 106] (fun u t v wr => ∃ k : Nat, u = .int .i64 (CS k) ∧ t = .int .i64 (CP k) ∧ v = .int .i64 k ∧ k ≤ pn ∧ Hid (Below wt.heap.size wt wr)) (fun u t v wr => (pn - intOf v).toNat)
              case atStart => exact ⟨0, by rw [HC0.out.1]; rfl, by rw [HC0.out.2]; rfl, rfl, Nat.zero_le _, Below.refl _ _⟩
              case round =>
                obtain ⟨k, rfl, rfl, rfl, hkn, HH⟩ := hrel
                by_cases hlt : k < pn
                · have hlt' : (k : Int) < (pn : Int) := by omega
                  obtain ⟨x, hx⟩ : ∃ x, H[k]? = some x := ⟨_, List.getElem?_eq_getElem (by have := HLN.out; omega)⟩
                  have hxo := hHo.at hx
                  obtain ⟨b, f, e0, t1, rg⟩ := HRD.out (by omega)
                  subst e0
                  have LD : Hid (wr.rangeAt b (f + k * 16) (cellsId x)) := fun t u ht => by
                    rw [HH.out.cell (p := ⟨b, f + k * 16 + t, none⟩) t1]
                    exact rg k x hx t u ht
                  obtain ⟨r1, hr1⟩ : ∃ r, r = decide (kd me true x < kd me true d) := ⟨_, rfl⟩
                  obtain ⟨r2, hr2⟩ : ∃ r, r = decide (kd me false x < kd me false d) := ⟨_, rfl⟩
                  have HT1 : Hid (CS (k + 1) = if r1 then CS k + 1 else CS k) := by
                    show _ = _
                    rw [HCS.out, hr1]
                    simp only [List.take_add_one, hx, Option.toList_some, List.filter_append, List.length_append, List.filter_cons, List.filter_nil]
                    split <;> simp
                  have HT2 : Hid (CP (k + 1) = if r2 then CP k + 1 else CP k) := by
                    show _ = _
                    rw [HCP.out, hr2]
                    simp only [List.take_add_one, hx, Option.toList_some, List.filter_append, List.length_append, List.filter_cons, List.filter_nil]
                    split <;> simp
                  have HL1 : Hid (decide (num (sD x me) < num (sD d me)) = r1) := by show _ = _; rw [hr1, kd_true hme hxo, kd_true hme hd]
                  have HL2 : Hid (decide (num (sD me x) < num (sD me d)) = r2) := by show _ = _; rw [hr2, kd_false hme hxo, kd_false hme hd]
                  have hc1 := (hcl k).1
                  have hc2 := (hcl k).2
                  have HCW : Hid (CSt w wr me d p s (.slice p1 n1 c1) (.slice p2 n2 c2) (.slice pa na ca) (.slice pb nb cb) e1 N e3) := HCT.out.later HH.out
                  clear hr1 hr2 rg hx
                  obtain ⟨k1, hk1⟩ : ∃ k1, k1 = CS k := ⟨_, rfl⟩
                  obtain ⟨k2, hk2⟩ : ∃ k2, k2 = CP k := ⟨_, rfl⟩
                  rw [← hk1] at HT1 hc1 ⊢
                  rw [← hk2] at HT2 hc2 ⊢
                  clear hk1 hk2
                  go_wp2_with (first | (refine wpList_load_mid rfl 23 (.tmp 108) rfl _ _ rfl (cellsId x) _ LD.out Yba.underlying23 rfl (by rw [info23]; simp [cellsId, hxo.1]) ?_) | (refine wpList_store_id rfl (.tmp 26) (.tmp 109) rfl _ rfl x hxo.1 rfl zero16 rfl (Blk.new wr zero16) ?_; intro w4' hB4 hg4; have L4 : Below wr.heap.size wr w4' := ((Below.refl _ wr).alloc (Nat.le_refl _) _).grown hg4 (by simp) (by rintro k ⟨⟩; exact Nat.le_refl _); have HB4 : Hid (Blk w4' wr.heap.size x) := hB4; have HL4 : Hid (Below wr.heap.size wr w4') := L4; clear hB4 hg4 L4))
                  have HD4 : Hid (Blk w4' e3 d) := (HCW.out.later HL4.out).h3
                  have HM4 : Hid (Blk w4' e1 me) := (HCW.out.later HL4.out).h1
                  have hN : Nonempty (Later w4') := ⟨⟨w4', Below.refl _ _⟩⟩
                  have QX : Hid (∀ w', (∃ p : Later w4', w' = p.w) → w'.rangeAt wr.heap.size 0 (cellsId x)) := by rintro w' ⟨p, rfl⟩; exact (HB4.out.later p.h).range
                  have QM : Hid (∀ w', (∃ p : Later w4', w' = p.w) → w'.rangeAt e1 0 (cellsId me)) := by rintro w' ⟨p, rfl⟩; exact (HM4.out.later p.h).range
                  have QD : Hid (∀ w', (∃ p : Later w4', w' = p.w) → w'.rangeAt e3 0 (cellsId d)) := by rintro w' ⟨p, rfl⟩; exact (HD4.out.later p.h).range
                  refine wp_region_later (by kernel_rfl) (by kernel_rfl) ?_
                  refine qload_id rfl (.tmp 26) rfl _ _ rfl x hxo.1 QX.out ?_
                  simp only [Act.put, List.setIfInBounds_toArray, List.set_cons_succ, List.set_cons_zero]
                  refine qload_id rfl (.tmp 11) rfl _ _ rfl me hme.1 QM.out ?_
                  simp only [Act.put, List.setIfInBounds_toArray, List.set_cons_succ, List.set_cons_zero]
                  go_big_quiet_want
                  go_big_quiet_op
                  refine ⟨_, fun q => calls_later (csub_at w4' x me hxo hme _ q.h), ?_⟩
                  go_big_quiet_on
                  refine qload_id rfl (.tmp 13) rfl _ _ rfl d hd.1 QD.out ?_
                  simp only [Act.put, List.setIfInBounds_toArray, List.set_cons_succ, List.set_cons_zero]
                  refine qload_id rfl (.tmp 11) rfl _ _ rfl me hme.1 QM.out ?_
                  simp only [Act.put, List.setIfInBounds_toArray, List.set_cons_succ, List.set_cons_zero]
                  go_big_quiet_want
                  go_big_quiet_op
                  refine ⟨_, fun q => calls_later (csub_at w4' d me hd hme _ q.h), ?_⟩
                  go_big_quiet_on
                  go_big_quiet_want
                  go_big_quiet_op
                  refine ⟨_, fun q => calls_later (less_at w4' (sD x me) (sD d me) (sD_ok _ _) (sD_ok _ _) r1 HL1.out _ q.h), ?_⟩
                  go_big_quiet_on
                  refine wpQuiet_nil ?_
                  intro w5' hw5
                  obtain ⟨⟨_, hb5⟩, rfl⟩ := hw5
                  rename World => w5'
                  have HL5 : Hid (Below wr.heap.size wr w5') := HL4.out.trans (hb5.mono HL4.out.size)
                  have HB5 : Hid (Blk w5' wr.heap.size x) := HB4.out.later hb5
                  clear hb5 QX QM QD hN HB4 HL4 HD4 HM4
                  have HD5 : Hid (Blk w5' e3 d) := (HCW.out.later HL5.out).h3
                  have HM5 : Hid (Blk w5' e1 me) := (HCW.out.later HL5.out).h1
                  have hN : Nonempty (Later w5') := ⟨⟨w5', Below.refl _ _⟩⟩
                  have QX : Hid (∀ w', (∃ p : Later w5', w' = p.w) → w'.rangeAt wr.heap.size 0 (cellsId x)) := by rintro w' ⟨p, rfl⟩; exact (HB5.out.later p.h).range
                  have QM : Hid (∀ w', (∃ p : Later w5', w' = p.w) → w'.rangeAt e1 0 (cellsId me)) := by rintro w' ⟨p, rfl⟩; exact (HM5.out.later p.h).range
                  have QD : Hid (∀ w', (∃ p : Later w5', w' = p.w) → w'.rangeAt e3 0 (cellsId d)) := by rintro w' ⟨p, rfl⟩; exact (HD5.out.later p.h).range
                  have fin : Hid (∀ w6', Below w5'.heap.size w5' w6' → Below wt.heap.size wt w6') := fun w6' h6 => HH.out.trans ((HL5.out.trans (h6.mono HL5.out.size)).mono HH.out.size)
                  clear hcl HL1
                  cases r1
                  all_goals
                    go_wp2
                    refine wp_region_later (by kernel_rfl) (by kernel_rfl) ?_
                    refine qload_id rfl (.tmp 11) rfl _ _ rfl me hme.1 QM.out ?_
                    simp only [Act.put, List.setIfInBounds_toArray, List.set_cons_succ, List.set_cons_zero]
                    refine qload_id rfl (.tmp 26) rfl _ _ rfl x hxo.1 QX.out ?_
                    simp only [Act.put, List.setIfInBounds_toArray, List.set_cons_succ, List.set_cons_zero]
                    go_big_quiet_want
                    go_big_quiet_op
                    refine ⟨_, fun q => calls_later (csub_at w5' me x hme hxo _ q.h), ?_⟩
                    go_big_quiet_on
                    refine qload_id rfl (.tmp 11) rfl _ _ rfl me hme.1 QM.out ?_
                    simp only [Act.put, List.setIfInBounds_toArray, List.set_cons_succ, List.set_cons_zero]
                    refine qload_id rfl (.tmp 13) rfl _ _ rfl d hd.1 QD.out ?_
                    simp only [Act.put, List.setIfInBounds_toArray, List.set_cons_succ, List.set_cons_zero]
                    go_big_quiet_want
                    go_big_quiet_op
                    refine ⟨_, fun q => calls_later (csub_at w5' me d hme hd _ q.h), ?_⟩
                    go_big_quiet_on
                    go_big_quiet_want
                    go_big_quiet_op
                    refine ⟨_, fun q => calls_later (less_at w5' (sD me x) (sD me d) (sD_ok _ _) (sD_ok _ _) r2 HL2.out _ q.h), ?_⟩
                    go_big_quiet_on
                    refine wpQuiet_nil ?_
                    intro w6' hw6
                    obtain ⟨⟨_, hb6⟩, rfl⟩ := hw6
                    rename World => w6'
                    have HL6 : Hid (Below wt.heap.size wt w6') := fin.out _ hb6
                    clear hb6 QX QM QD fin hN HL2 HM5 HD5 HB5 HL5
                    cases r2
                  all_goals go_wp2
                  all_goals
                    have h1 := HT1.out
                    have h2 := HT2.out
                    simp only [if_true, if_false, Bool.false_eq_true] at h1 h2
                    refine ⟨⟨k + 1, by rw [h1] <;> rfl, by rw [h2] <;> rfl, rfl, by omega, HL6⟩, ?_⟩
                    simp [intOf]
                    omega
                · have hlt' : ¬ (k : Int) < (pn : Int) := by omega
                  obtain rfl : pn = k := by omega
                  have HTK : Hid (H.take pn = H) := List.take_of_length_le (by have := HLN.out; omega)
                  have HI1 : Hid (∀ x ∈ H, kd me true x ≠ kd me true d) := fun x hx e => HIN.out (kd_inj hme (hHo x hx) hd e ▸ hx)
                  have HI2 : Hid (∀ x ∈ H, kd me false x ≠ kd me false d) := fun x hx e => HIN.out (kd_inj hme (hHo x hx) hd e ▸ hx)
                  have N1 : Hid (s' ≠ s ↔ CS pn < 3) := by
                    show _ ↔ _
                    rw [HCS.out]
                    show _ ↔ (List.filter _ (List.take pn H)).length < 3
                    rw [HTK.out]
                    exact near_count (kd me true) HNT.out.2 HS2.out.2.1 HHN.out HIN.out HI1.out
                  have N2 : Hid (p' ≠ p ↔ CP pn < 3) := by
                    show _ ↔ _
                    rw [HCP.out]
                    show _ ↔ (List.filter _ (List.take pn H)).length < 3
                    rw [HTK.out]
                    exact near_count (kd me false) HNT.out.1 HS2.out.1 HHN.out HIN.out HI2.out
                  have hc1 := (hcl pn).1
                  have hc2 := (hcl pn).2
                  have HG : Hid (got = (!decide (p' = p) || !decide (s' = s))) := HS2.out.2.2
                  clear hcl HCS HCP HC0 HS2 HI1 HI2 HTK HNT HHN HRD
                  obtain ⟨k1, hk1⟩ : ∃ k1, k1 = CS pn := ⟨_, rfl⟩
                  obtain ⟨k2, hk2⟩ : ∃ k2, k2 = CP pn := ⟨_, rfl⟩
                  rw [← hk1] at N1 hc1 ⊢
                  rw [← hk2] at N2 hc2 ⊢
                  clear hk1 hk2
                  by_cases q1 : k1 < 3
                  · have q1' : (k1 : Int) < 3 := by omega
                    obtain rfl : got = true := by rw [HG.out, decide_eq_false (N1.out.2 q1)]; simp
                    clear N1 N2 HG
                    go_wp2
                    go_ret
                    exact ⟨rfl, HCT.out.h8.trans (HH.out.mono HCT.out.h8.size)⟩
                  · have q1' : ¬ (k1 : Int) < 3 := by omega
                    by_cases q2 : k2 < 3
                    · have q2' : (k2 : Int) < 3 := by omega
                      obtain rfl : got = true := by rw [HG.out, decide_eq_false (N2.out.2 q2)]; simp
                      clear N1 N2 HG
                      go_wp2
                      go_ret
                      exact ⟨rfl, HCT.out.h8.trans (HH.out.mono HCT.out.h8.size)⟩
                    · have q2' : ¬ (k2 : Int) < 3 := by omega
                      have z1 : s' = s := Classical.byContradiction fun h => q1 (N1.out.1 h)
                      have z2 : p' = p := Classical.byContradiction fun h => q2 (N2.out.1 h)
                      obtain rfl : got = false := by rw [HG.out, decide_eq_true z1, decide_eq_true z2]; rfl
                      clear N1 N2 HG z1 z2
                      go_wp2
                      go_ret
                      exact ⟨rfl, HCT.out.h8.trans (HH.out.mono HCT.out.h8.size)⟩
end Go.Proofs.Ybulkadlc
