import Derived.Test.YbulkadnuName
namespace Go.Proofs.Ybulkadnu
open Go.RowKit Go.QuietTail

/-- The offsets that the law takes: all within the text. -/
theorem offs (n A B : Nat) : ∃ a d e : Nat, ((A : Int) % ((n : Int) + 1) = a) ∧ ((B : Int) % ((n : Int) - a + 1) = d) ∧ ((a : Int) + d = e) ∧ a ≤ e ∧ e ≤ n := by
  have h1 : A % (n + 1) < n + 1 := Nat.mod_lt _ (Nat.succ_pos n)
  have h2 : B % (n - A % (n + 1) + 1) < n - A % (n + 1) + 1 := Nat.mod_lt _ (Nat.succ_pos _)
  refine ⟨A % (n + 1), B % (n - A % (n + 1) + 1), A % (n + 1) + B % (n - A % (n + 1) + 1), by simp, ?_, by omega, by omega, by omega⟩
  generalize A % (n + 1) = a at *
  have : (n : Int) - a + 1 = ((n - a + 1 : Nat) : Int) := by omega
  rw [this]
  simp

/-- The flag 'apart', struck out, is not there. -/
theorem struck (f : Nat) (h : f < 256) : (bits BinOp.and IntKind.u8 (bits BinOp.andNot IntKind.u8 (f : Int) 4) 4 != 0) = false := by
  have : ∀ f : Fin 256, (bits BinOp.and IntKind.u8 (bits BinOp.andNot IntKind.u8 ((f : Nat) : Int) 4) 4 != 0) = false := by decide +kernel
  exact this ⟨f, h⟩

set_option maxHeartbeats 1000000 in
theorem law_spelt (text : ByteArray) (A B K fl : Nat) (na : Option Addr) (len cap : Nat) (w : World) (ht : text.size ≤ 1048576) (hl : len ≤ 1048576)
    (hlen : 0 < len) (hf : (bits BinOp.and IntKind.u8 (fl : Int) 4 != 0) = false) :
    Calls Yba.prog 3 #[.string text, .int .u32 A, .int .u32 B, .int .u32 K, .int .u8 fl, .slice na len cap] w fun x w' => x = .returned (.bool true) ∧ Below w.heap.size w w' := by
  have h1 : ¬ (1048576 : Int) < (text.size : Int) := by omega
  have h2 : ¬ (1048576 : Int) < (len : Int) := by omega
  have h3 : ((len : Int) == 0) = false := by simp; omega
  obtain ⟨a, d, e, e1, e2, e3, hae, he⟩ := offs text.size A B
  have hd : (a : Int) + d ≤ 1048576 := by omega
  have g0 : (0 : Int) ≤ a := by omega
  have g1 : (a : Int) ≤ e := by omega
  have g2 : (e : Int) ≤ text.size := by omega
  go_enter Yba.func3, Yba.ntmps3
  go_wp2_with fail
  refine (name_spelt (w.heap.size + 1 + 1 + 1) (w.heap.size + 1 + 1) text a e (fl : Int) na len cap _ ⟨?_, ?_, ?_, ?_, ?_, ?_⟩ (by omega) hae he hf).mono ?_
  iterate 6 (· simp [go_sem])
  rintro x w1 ⟨rfl, hb⟩
  have c0 : w1.cell? ⟨w.heap.size + 1, 0, none⟩ = some (.int .i64 a) := by rw [hb.cell (by simp)]; simp [go_sem]
  have c1 : w1.cell? ⟨w.heap.size + 1, 1, none⟩ = some (.string (text.extract a e)) := by rw [hb.cell (by simp)]; simp [go_sem]
  have HB : Hid (Below w.heap.size w w1) := (Below.trans (((((Below.refl _ w).alloc (by simp) _).alloc (by simp) _).alloc (by simp <;> omega) _).alloc (by simp <;> omega) _) (hb.mono (by simp <;> omega)))
  have c2 := World.block_lt_of_cell? _ _ c0
  clear hb
  generalize w.heap.size + 1 = q at *
  have c3 : q < w1.heap.size := by simpa using c2
  have c4 : ¬ q = w1.heap.size := by omega
  clear c2
  go_wp2
  go_ret
  exact ⟨rfl, HB.out.alloc (HB.out.size) _⟩

set_option maxHeartbeats 1000000 in
theorem law_none (text : ByteArray) (A B K fl : Nat) (na : Option Addr) (len cap : Nat) (w : World) (ht : text.size ≤ 1048576) (hl : len ≤ 1048576)
    (hlen : len = 0) (hfl : fl < 256) :
    Calls Yba.prog 3 #[.string text, .int .u32 A, .int .u32 B, .int .u32 K, .int .u8 fl, .slice na len cap] w fun x w' => x = .returned (.bool true) ∧ Below w.heap.size w w' := by
  have h1 : ¬ (1048576 : Int) < (text.size : Int) := by omega
  have h2 : ¬ (1048576 : Int) < (len : Int) := by omega
  subst hlen
  have hf0 := struck fl hfl
  obtain ⟨g, hg⟩ : ∃ g, bits BinOp.andNot IntKind.u8 (fl : Int) 4 = g := ⟨_, rfl⟩
  have hf : (bits BinOp.and IntKind.u8 g 4 != 0) = false := hg ▸ hf0
  clear hf0
  obtain ⟨a, d, e, e1, e2, e3, hae, he⟩ := offs text.size A B
  have hd : (a : Int) + d ≤ 1048576 := by omega
  have g0 : (0 : Int) ≤ a := by omega
  have g1 : (a : Int) ≤ e := by omega
  have g2 : (e : Int) ≤ text.size := by omega
  go_enter Yba.func3, Yba.ntmps3
  go_wp2_with fail
  refine (name_spelt (w.heap.size + 1 + 1 + 1) (w.heap.size + 1 + 1) text a e g na 0 cap _ ⟨?_, ?_, ?_, ?_, ?_, ?_⟩ (by omega) hae he hf).mono ?_
  iterate 6 (· simp [go_sem])
  rintro x w1 ⟨rfl, hb⟩
  have c0 : w1.cell? ⟨w.heap.size + 1, 0, none⟩ = some (.int .i64 a) := by rw [hb.cell (by simp)]; simp [go_sem]
  have c1 : w1.cell? ⟨w.heap.size + 1, 1, none⟩ = some (.string (text.extract a e)) := by rw [hb.cell (by simp)]; simp [go_sem]
  have HB : Hid (Below w.heap.size w w1) := (Below.trans (((((Below.refl _ w).alloc (by simp) _).alloc (by simp) _).alloc (by simp <;> omega) _).alloc (by simp <;> omega) _) (hb.mono (by simp <;> omega)))
  have c2 := World.block_lt_of_cell? _ _ c0
  clear hb
  generalize w.heap.size + 1 = q at *
  have c3 : q < w1.heap.size := by simpa using c2
  have c4 : ¬ q = w1.heap.size := by omega
  clear c2
  go_wp2
  go_ret
  exact ⟨rfl, HB.out.alloc (HB.out.size) _⟩

set_option maxHeartbeats 1000000 in
theorem law_apart (text : ByteArray) (A B K fl : Nat) (na : Option Addr) (len cap : Nat) (w : World) (ht : text.size ≤ 1048576) (hl : len ≤ 1048576)
    (hlen : 0 < len) (hf : (bits BinOp.and IntKind.u8 (fl : Int) 4 != 0) = true) (nm off : Nat) (hna : na = some ⟨nm, off, none⟩) (hs : ∀ i, i < len → ∃ s, w.cell? ⟨nm, off + i, none⟩ = some (.string s)) :
    Calls Yba.prog 3 #[.string text, .int .u32 A, .int .u32 B, .int .u32 K, .int .u8 fl, .slice na len cap] w fun x w' => x = .returned (.bool true) ∧ Below w.heap.size w w' := by
  have h1 : ¬ (1048576 : Int) < (text.size : Int) := by omega
  have h2 : ¬ (1048576 : Int) < (len : Int) := by omega
  have h3 : ((len : Int) == 0) = false := by simp; omega
  have h4 : ¬ (len : Int) = 0 := by omega
  subst hna
  obtain ⟨i, hi, hil⟩ : ∃ i : Nat, (K : Int) % (len : Int) = i ∧ i < len := ⟨K % len, by simp, Nat.mod_lt _ hlen⟩
  obtain ⟨s, hs⟩ := hs i hil
  have hil' : (i : Int) < (len : Int) := by omega
  have m0 := World.block_lt_of_cell? _ _ hs
  have m1 : nm < w.heap.size := by simpa using m0
  have m2 : ¬ nm = w.heap.size := by omega
  have m3 : ¬ nm = w.heap.size + 1 := by omega
  have m4 : ¬ nm = w.heap.size + 1 + 1 := by omega
  have m5 : ¬ nm = w.heap.size + 1 + 1 + 1 := by omega
  clear m0
  obtain ⟨a, d, e, e1, e2, e3, hae, he⟩ := offs text.size A B
  have hd : (a : Int) + d ≤ 1048576 := by omega
  have g0 : (0 : Int) ≤ a := by omega
  have g1 : (a : Int) ≤ e := by omega
  have g2 : (e : Int) ≤ text.size := by omega
  go_enter Yba.func3, Yba.ntmps3
  go_wp2_with fail
  refine (name_apart (w.heap.size + 1 + 1 + 1) (w.heap.size + 1 + 1) nm off text s a i (fl : Int) len cap _ ⟨?_, ?_, ?_, ?_, ?_, ?_⟩ (by omega) hil ?_ hf).mono ?_
  iterate 6 (· simp [go_sem])
  · exact cell_from ((((Below.refl _ w).alloc (by simp) _).alloc (by simp) _).alloc (by simp <;> omega) _ |>.alloc (by simp <;> omega) _) hs
  rintro x w1 ⟨rfl, hb⟩
  have c0 : w1.cell? ⟨w.heap.size + 1, 0, none⟩ = some (.int .i64 a) := by rw [hb.cell (by simp)]; simp [go_sem]
  have c1 : w1.cell? ⟨w.heap.size + 1, 1, none⟩ = some (.string (s)) := by rw [hb.cell (by simp)]; simp [go_sem]
  have HB : Hid (Below w.heap.size w w1) := (Below.trans (((((Below.refl _ w).alloc (by simp) _).alloc (by simp) _).alloc (by simp <;> omega) _).alloc (by simp <;> omega) _) (hb.mono (by simp <;> omega)))
  have c2 := World.block_lt_of_cell? _ _ c0
  clear hb
  generalize w.heap.size + 1 = q at *
  have c3 : q < w1.heap.size := by simpa using c2
  have c4 : ¬ q = w1.heap.size := by omega
  clear c2
  go_wp2
  go_ret
  exact ⟨rfl, HB.out.alloc (HB.out.size) _⟩

theorem law_long (text : ByteArray) (A B K fl : Nat) (na : Option Addr) (len cap : Nat) (w : World) (h : 1048576 < text.size ∨ 1048576 < len) :
    Calls Yba.prog 3 #[.string text, .int .u32 A, .int .u32 B, .int .u32 K, .int .u8 fl, .slice na len cap] w fun x w' => x = .returned (.bool true) ∧ Below w.heap.size w w' := by
  by_cases ht : 1048576 < text.size
  · have h1 : (1048576 : Int) < (text.size : Int) := by omega
    go_enter Yba.func3, Yba.ntmps3
    go_wp2
    go_ret
    exact ⟨rfl, Below.refl _ _⟩
  · have h1 : ¬ (1048576 : Int) < (text.size : Int) := by omega
    have h2 : (1048576 : Int) < (len : Int) := by omega
    go_enter Yba.func3, Yba.ntmps3
    go_wp2
    go_ret
    exact ⟨rfl, Below.refl _ _⟩

theorem law_walk (text : ByteArray) (A B K fl : Nat) (na : Option Addr) (len cap : Nat) (w : World) (hfl : fl < 256)
    (hn : 0 < len → ∃ nm off, na = some ⟨nm, off, none⟩ ∧ ∀ i, i < len → ∃ s, w.cell? ⟨nm, off + i, none⟩ = some (.string s)) :
    Calls Yba.prog 3 #[.string text, .int .u32 A, .int .u32 B, .int .u32 K, .int .u8 fl, .slice na len cap] w fun x w' => x = .returned (.bool true) ∧ Below w.heap.size w w' := by
  by_cases ht : 1048576 < text.size
  · exact law_long text A B K fl na len cap w (.inl ht)
  by_cases hl : 1048576 < len
  · exact law_long text A B K fl na len cap w (.inr hl)
  rcases Nat.eq_zero_or_pos len with h0 | h0
  · exact law_none text A B K fl na len cap w (by omega) (by omega) h0 hfl
  cases hf : (bits BinOp.and IntKind.u8 (fl : Int) 4 != 0) with
  | false => exact law_spelt text A B K fl na len cap w (by omega) (by omega) h0 hf
  | true =>
    obtain ⟨nm, off, hna, hs⟩ := hn h0
    exact law_apart text A B K fl na len cap w (by omega) (by omega) h0 hf nm off hna hs
end Go.Proofs.Ybulkadnu
