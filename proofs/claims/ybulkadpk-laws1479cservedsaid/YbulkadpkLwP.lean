import Derived.Test.YbulkadpkLwA
namespace Go.Proofs.Ybulkadpk
open Go.RowKit Go.QuietTail Go.CountedRange
set_option linter.unusedVariables false
set_option linter.unusedSimpArgs false

/-- The map when i names have been gone through. -/
def MapPart (w : World) (mb : Nat) (mask : Int) (i : Nat) : Prop :=
  ∃ n, ∃ D : DataW Unit, w.ownsMap Yba.prog 9 (plainElem Yba.prog 4) mb n D ∧ n ≤ i ∧ ∀ k : Int, D.atKey (.string (nmB k).data.toList) (.lit (.bool false)) = .lit (.bool (decide ((k % 3).toNat < i) && bitOf mask k))
theorem MapPart.new (w : World) (mask : Int) : MapPart (w.alloc (.map #[] 0)) w.heap.size mask 0 :=
  ⟨0, .map [], World.ownsMap_made w _ _ _, Nat.le_refl _, fun k => by simp [DataW.atKey]⟩
theorem MapPart.lt {w : World} {mb : Nat} {mask : Int} {i : Nat} (h : MapPart w mb mask i) : mb < w.heap.size := let ⟨_, _, h, _⟩ := h; h.lt
theorem MapPart.done {w : World} {mb : Nat} {mask : Int} (h : MapPart w mb mask 3) : SplitMap w mb mask := by
  obtain ⟨n, D, h1, _, h2⟩ := h
  refine ⟨n, D, h1, fun k => ?_⟩
  rw [h2 k, decide_eq_true (by omega : (k % 3).toNat < 3)]
  rfl
theorem bitOf_at {mask k : Int} {i : Nat} (h : (k % 3).toNat = i) : bitOf mask k = (bits BinOp.and .u8 (mask / 2 ^ i) 1 == 1) := by
  unfold bitOf
  rw [h]
theorem MapPart.skip {w : World} {mb : Nat} {mask : Int} {i : Nat} (h : MapPart w mb mask i) (hb : (bits BinOp.and .u8 (mask / 2 ^ i) 1 == 1) = false) : MapPart w mb mask (i + 1) := by
  obtain ⟨n, D, h1, h2, h3⟩ := h
  refine ⟨n, D, h1, by omega, fun k => ?_⟩
  rw [h3 k]
  by_cases e : (k % 3).toNat = i
  · rw [bitOf_at e, hb]; simp
  · have : decide ((k % 3).toNat < i) = decide ((k % 3).toNat < i + 1) := by by_cases h : (k % 3).toNat < i <;> simp [h] <;> omega
    rw [this]
theorem nmB_eq {k k' : Int} (h : k % 3 = k' % 3) : nmB k = nmB k' := by unfold nmB; rw [h]
theorem nmB_ne {k k' : Int} (h : k % 3 ≠ k' % 3) : (nmB k).data.toList ≠ (nmB k').data.toList := by
  unfold nmB
  have h1 : k % 3 = 0 ∨ k % 3 = 1 ∨ k % 3 = 2 := by omega
  have h2 : k' % 3 = 0 ∨ k' % 3 = 1 ∨ k' % 3 = 2 := by omega
  rcases h1 with h1 | h1 | h1 <;> rcases h2 with h2 | h2 | h2 <;> simp [h1, h2] <;> omega
theorem map_put {D : DataW Unit} {mask : Int} {i : Nat} (hi : i < 3) (hM : Maps.IsMap D) (hb : (bits BinOp.and .u8 (mask / 2 ^ i) 1 == 1) = true)
    (h : ∀ k : Int, D.atKey (.string (nmB k).data.toList) (.lit (.bool false)) = .lit (.bool (decide ((k % 3).toNat < i) && bitOf mask k))) (k : Int) :
    (D.put (.string (nmB i).data.toList) (.lit (.bool true))).atKey (.string (nmB k).data.toList) (.lit (.bool false)) = .lit (.bool (decide ((k % 3).toNat < i + 1) && bitOf mask k)) := by
  by_cases e : (k % 3).toNat = i
  · rw [nmB_eq (k := k) (k' := i) (by omega), Maps.atKey_put_same hM (k := .string (nmB i).data.toList) (by simp [WideAt.IsKeyLit]), bitOf_at e, hb, decide_eq_true (by omega)]
    rfl
  · rw [Maps.atKey_put_other (fun e2 => nmB_ne (k := k) (k' := i) (by omega) (by simpa using e2)), h k]
    have : decide ((k % 3).toNat < i) = decide ((k % 3).toNat < i + 1) := by by_cases h : (k % 3).toNat < i <;> simp [h] <;> omega
    rw [this]
theorem unhid {p : Prop} (h : Hid p) : p := h
theorem below_of_none {x y : World} (h : x.grownBy y none) : Below x.heap.size x y := ⟨h.os, h.tape, h.output, h.size, fun k hk => h.block k hk (by simp)⟩
theorem info81 : (Yba.prog.info? 81).map (fun i => (i.zero, i.size, i.bytes)) = some (some (.agg #[.slice none 0 0, .slice none 0 0]), 2, 48) := by kernel_rfl
theorem info3 : (Yba.prog.info? 3).map (fun i => (i.zero, i.size, i.bytes)) = some (some (.int .i64 0), 1, 8) := by kernel_rfl
theorem smps_append (F F' : List Zf) : smps (F ++ F') = smps F + smps F' := by simp [smps]
theorem smps_le {F F' : List Zf} (h : F <+: F') : smps F ≤ smps F' := by
  obtain ⟨r, rfl⟩ := h
  rw [smps_append]
  omega
theorem smp_take (M : List (List Int)) (t : Nat) : smp (M.take t) ≤ smp M := by
  have h := take_flatten_le M t
  have h2 : (M.take t).length ≤ M.length := by rw [List.length_take]; omega
  unfold smp
  omega
theorem flat_pre {α : Type} {G : List (List α)} {j : Nat} {g : List α} (h : G[j]? = some g) (f : Nat) : (G.take j).flatten ++ g.take f <+: G.flatten := by
  have h3 : G.flatten = (G.take j).flatten ++ (G.drop j).flatten := by rw [← List.flatten_append, List.take_append_drop]
  rw [h3, List.prefix_append_right_inj]
  rw [List.drop_eq_getElem_cons (List.getElem?_eq_some_iff.1 h).1, List.flatten_cons]
  have e : G[j]'(List.getElem?_eq_some_iff.1 h).1 = g := (List.getElem?_eq_some_iff.1 h).2
  rw [e]
  exact List.IsPrefix.trans (List.take_prefix _ _) (List.prefix_append _ _)

end Go.Proofs.Ybulkadpk
