import Derived.Test.YbulkadpkSpl
namespace Go.Proofs.Ybulkadpk
open Go.RowKit Go.QuietTail
set_option linter.unusedVariables false
set_option linter.unusedSimpArgs false

/-- A sample's cells, a metric's. -/
def smpC (b : Int) (f : Nat) : List Value := [.string (sfB b), .float .f64 0, .string ByteArray.empty, .float .f64 f, .string ByteArray.empty, .pointer none]
def SampsL (lo hi : Nat) (w : World) (v : Value) (ms : List Int) : Prop := SubL lo hi w v 6 smpC (fun _ _ _ => True) ms
def metC (ms : List Int) (v : Value) : List Value := [.slice none 0 0, v]
def MetsL (lo hi : Nat) (w : World) (v : Value) (M : List (List Int)) : Prop := SubL lo hi w v 2 metC (fun _ x ms => SampsL lo hi w x ms) M
theorem SampsL.kept {lo hi lo' hi' : Nat} {w w' : World} {v : Value} {ms : List Int} (h : SampsL lo hi w v ms) (hk : Keep lo hi w w') (hl : lo' ≤ lo) (hh : hi ≤ hi') : SampsL lo' hi' w' v ms := SubL.kept h hk hl hh (fun _ _ _ _ => trivial)
theorem MetsL.kept {lo hi lo' hi' : Nat} {w w' : World} {v : Value} {M : List (List Int)} (h : MetsL lo hi w v M) (hk : Keep lo hi w w') (hl : lo' ≤ lo) (hh : hi ≤ hi') : MetsL lo' hi' w' v M := SubL.kept h hk hl hh (fun _ _ _ h => h.kept hk hl hh)

def tots (L : List Int) : Nat := (L.filter (fun b => !decide (b % 3 = 2))).length
def cres (L : List Int) : Nat := (L.filter (fun b => decide (b % 3 = 2))).length
theorem tots_snoc (L : List Int) (b : Int) : tots (L ++ [b]) = if b % 3 = 2 then tots L else tots L + 1 := by
  unfold tots
  rw [List.filter_append, List.length_append]
  by_cases h : b % 3 = 2 <;> simp [h]
theorem cres_snoc (L : List Int) (b : Int) : cres (L ++ [b]) = if b % 3 = 2 then cres L + 1 else cres L := by
  unfold cres
  rw [List.filter_append, List.length_append]
  by_cases h : b % 3 = 2 <;> simp [h]
theorem tots_le (L : List Int) : tots L ≤ L.length := List.length_filter_le _ _
theorem cres_le (L : List Int) : cres L ≤ L.length := List.length_filter_le _ _

theorem info30 : (Yba.prog.info? 30).map (fun i => (i.zero, i.size, i.bytes)) = some (some (.agg #[.slice none 0 0, .slice none 0 0]), 2, 48) := by kernel_rfl
theorem info75 : (Yba.prog.info? 75).map (fun i => (i.zero, i.size, i.bytes)) = some (some (.agg #[.string ⟨#[]⟩, .float .f64 0, .string ⟨#[]⟩, .float .f64 0, .string ⟨#[]⟩, .pointer none]), 6, 72) := by kernel_rfl
theorem info79 : (Yba.prog.info? 79).map (fun i => (i.zero, i.size, i.bytes)) = some (some (.agg #[.string ⟨#[]⟩, .string ⟨#[]⟩, .string ⟨#[]⟩, .string ⟨#[]⟩, .bool false, .slice none 0 0]), 6, 96) := by kernel_rfl

/-- What lies in split's own memory when the samples L have been gone through. -/
structure SpS (w0 : World) (F T C B : Nat) (nm ty : ByteArray) (prom : Bool) (mv : Value) (w : World) (L : List Int) (v1 v2 : Value) (xs1 xs2 : List Value) : Prop where
  f : Blk w F 79 (famC nm ty prom mv)
  t : Blk w T 79 (famC (nm ++ ⟨#[95, 116, 111, 116, 97, 108]⟩) ⟨#[117, 110, 107, 110, 111, 119, 110]⟩ true v1)
  c : Blk w C 79 (famC (nm ++ ⟨#[95, 99, 114, 101, 97, 116, 101, 100]⟩) ⟨#[103, 97, 117, 103, 101]⟩ false v2)
  r1 : w.ownsRow B 30 2 v1 (tots L) xs1
  r2 : w.ownsRow B 30 2 v2 (cres L) xs2
  ne : v1.ownBlock = none ∨ v1.ownBlock ≠ v2.ownBlock
  b : Below w0.heap.size w0 w
  o : w0.heap.size ≤ F ∧ F < T ∧ T < C ∧ C < B ∧ B ≤ w.heap.size

theorem step_append_at {P : Program} {ops : Array Oper} {o : Oper} {a : Act} {w : World} {K : Act → World → Prop} {Q : Exit → Act → World → Prop} {E : Prop}
    (hg : o.guard = none) (s x : Operand) (t : TypeId) (hop : o.op = Op.call { callee := Callee.builtin Builtin.append, args := #[s, x], argTypes := #[t, t] })
    (base : Nat) (e : TypeId) (i : TypeInfo) (z : Value) (size bytes : Nat) (ht : P.underlying t = some (.slice e)) (hi : P.info? e = some i) (hz : i.zero = some z)
    (hsize : i.size = size) (hby : i.bytes = bytes) (hzs : z.cells.size = size) (hsz : 0 < size)
    (v : Value) (n : Nat) (xs : List Value) (hs : a.eval s = v) (hown : w.ownsRow base e size v n xs)
    (ad : Addr) (m c : Nat) (news : List Value) (hx : a.eval x = .slice (some ad) m c) (hl : news.length = m * size) (hnews : ∀ j u, news[j]? = some u → w.cell? (ad.add j) = some u) (h1 : ∀ u ∈ news, u.oneCell' = true)
    (h63 : n + m ≤ maxLen) (hbytes : (n + m) * bytes ≤ 140737488355328) (hbase : base ≤ w.heap.size)
    (hK : ∀ v' w', w'.ownsRow base e size v' (n + m) (xs ++ news) → w.grownBy w' v.ownBlock → (v' = .slice none 0 0 ↔ v = .slice none 0 0 ∧ m = 0) → (v'.ownBlock = v.ownBlock ∨ v'.ownBlock = some w.heap.size) → K (a.put o.dst v') w') :
    if Region.wanted o (yielded ops a.tmps) = true then Oper.wp P o a w K Q else E := by
  have hw : Region.wanted o (yielded ops a.tmps) = true := by simp [Region.wanted, hg]
  rw [if_pos hw]
  obtain ⟨v', w', hr, h2, h3, h4, h5⟩ := run_append_own_at (P := P) w base t o.type e i z size bytes ht hi hz hsize hby hzs hsz v n xs hown ad m c news hl hnews h1 h63 hbytes hbase
  unfold Oper.wp execOp
  simp only [hop, resolve, invoke, builtin, Sem.run_bind, Sem.run_pure, Result.andThen_ok, List.map_toArray, List.map_cons, List.map_nil, hs, hx, hr]
  exact hK _ _ h2 h3 h4 h5

theorem size75 : (Yba.prog.info? 75).map (·.size) = some 6 := by kernel_rfl
def smpZ : List Value := [.string ⟨#[]⟩, .float .f64 0, .string ⟨#[]⟩, .float .f64 0, .string ⟨#[]⟩, .pointer none]
theorem smpC_one (b : Int) (f : Nat) : ∀ u ∈ smpC b f, u.oneCell' = true := by
  intro u hu
  simp [smpC] at hu
  rcases hu with rfl | rfl | rfl | rfl | rfl | rfl <;> rfl
theorem SpS.on {w0 : World} {F T C B : Nat} {nm ty : ByteArray} {prom : Bool} {mv : Value} {w w' : World} {L : List Int} {v1 v2 : Value} {xs1 xs2 : List Value} (h : SpS w0 F T C B nm ty prom mv w L v1 v2 xs1 xs2) (hb : Below w.heap.size w w') : SpS w0 F T C B nm ty prom mv w' L v1 v2 xs1 xs2 := by
  have hg : w.grownBy w' none := ⟨hb.os, hb.tape, hb.output, hb.size, fun k hk _ => hb.block k hk⟩
  have k1 : v1.ownBlock = none ∨ v1.ownBlock ≠ none := by cases v1.ownBlock <;> simp
  have k2 : v2.ownBlock = none ∨ v2.ownBlock ≠ none := by cases v2.ownBlock <;> simp
  exact ⟨h.f.on hb, h.t.on hb, h.c.on hb, h.r1.kept hg k1, h.r2.kept hg k2, h.ne, h.b.trans (hb.mono h.b.size), ⟨h.o.1, h.o.2.1, h.o.2.2.1, h.o.2.2.2.1, Nat.le_trans h.o.2.2.2.2 hb.size⟩⟩
theorem SpS.form {w0 : World} {F T C B : Nat} {nm ty : ByteArray} {prom : Bool} {mv : Value} {w : World} {L : List Int} {v1 v2 : Value} {xs1 xs2 : List Value} (h : SpS w0 F T C B nm ty prom mv w L v1 v2 xs1 xs2) : (∃ p c, v1 = .slice p (tots L) c) ∧ (∃ p c, v2 = .slice p (cres L) c) := by
  refine ⟨?_, ?_⟩
  · rcases h.r1.2 with ⟨rfl, e⟩ | ⟨g, c, cur, rfl, _⟩
    · exact ⟨none, 0, by rw [e]⟩
    · exact ⟨_, _, rfl⟩
  · rcases h.r2.2 with ⟨rfl, e⟩ | ⟨g, c, cur, rfl, _⟩
    · exact ⟨none, 0, by rw [e]⟩
    · exact ⟨_, _, rfl⟩

theorem SpS.addC {w0 : World} {F T C B : Nat} {nm ty : ByteArray} {prom : Bool} {mv : Value} {w w6 : World} {L : List Int} {v1 v2 v' : Value} {xs1 xs2 ys : List Value} (h : SpS w0 F T C B nm ty prom mv w L v1 v2 xs1 xs2)
    (hO : w6.ownsRow B 30 2 v' (cres L + 1) ys) (hG : w.grownBy w6 v2.ownBlock) (hat : v'.ownBlock = v2.ownBlock ∨ v'.ownBlock = some w.heap.size) {x : Int} (hx : x % 3 = 2) :
    SpS w0 F T C B nm ty prom mv (w6.setCell ⟨C, 5, none⟩ v') (L ++ [x]) v1 v' xs1 ys := by
  obtain ⟨o1, o2, o3, o4, o5⟩ := h.o
  have hb2 : ∀ k, v2.ownBlock = some k → B ≤ k := fun k e => (h.r2.lt k e).1
  have hb' : ∀ k, v'.ownBlock = some k → B ≤ k := fun k e => (hO.lt k e).1
  have hb1 : ∀ k, v1.ownBlock = some k → B ≤ k ∧ k < w.heap.size := fun k e => h.r1.lt k e
  have gs := grownBy_setCell w6 C 5 v'
  have ne2 : ∀ k, k < B → some k ≠ v2.ownBlock := fun k hk e => by have := hb2 k e.symm; omega
  have neC : ∀ v : Value, (∀ k, v.ownBlock = some k → B ≤ k) → v.ownBlock = none ∨ v.ownBlock ≠ some C := fun v hv => by
    cases e : v.ownBlock with
    | none => exact .inl rfl
    | some k => refine .inr fun e2 => ?_; cases e2; have := hv _ e; omega
  refine ⟨(h.f.kept hG (ne2 _ (by omega))).kept gs (by simp; omega), (h.t.kept hG (ne2 _ (by omega))).kept gs (by simp; omega), ?_, ?_, ?_, ?_, ?_, ⟨o1, o2, o3, o4, ?_⟩⟩
  · exact (h.c.kept hG (ne2 _ o4)).stored 5 v'
  · rw [tots_snoc, if_pos hx]
    refine (h.r1.kept hG ?_).kept gs (neC _ fun k e => (hb1 k e).1)
    exact h.ne
  · rw [cres_snoc, if_pos hx]
    exact hO.kept gs (neC _ hb')
  · cases e : v1.ownBlock with
    | none => exact .inl rfl
    | some k =>
      refine .inr fun e2 => ?_
      rcases hat with h1 | h1
      · rcases h.ne with h2 | h2
        · rw [e] at h2; cases h2
        · exact h2 (by rw [e, e2, h1])
      · have := (hb1 k e).2
        rw [← e2] at h1
        cases h1
        omega
  · exact ((h.b.grown hG h.b.size (fun k e => by have := hb2 k e; omega)).setCell (by show w0.heap.size ≤ C; omega) _)
  · have := hG.size
    simp
    omega
theorem SpS.addT {w0 : World} {F T C B : Nat} {nm ty : ByteArray} {prom : Bool} {mv : Value} {w w6 : World} {L : List Int} {v1 v2 v' : Value} {xs1 xs2 ys : List Value} (h : SpS w0 F T C B nm ty prom mv w L v1 v2 xs1 xs2)
    (hO : w6.ownsRow B 30 2 v' (tots L + 1) ys) (hG : w.grownBy w6 v1.ownBlock) (hat : v'.ownBlock = v1.ownBlock ∨ v'.ownBlock = some w.heap.size) {x : Int} (hx : ¬ x % 3 = 2) :
    SpS w0 F T C B nm ty prom mv (w6.setCell ⟨T, 5, none⟩ v') (L ++ [x]) v' v2 ys xs2 := by
  obtain ⟨o1, o2, o3, o4, o5⟩ := h.o
  have hb1 : ∀ k, v1.ownBlock = some k → B ≤ k := fun k e => (h.r1.lt k e).1
  have hb' : ∀ k, v'.ownBlock = some k → B ≤ k := fun k e => (hO.lt k e).1
  have hb2 : ∀ k, v2.ownBlock = some k → B ≤ k ∧ k < w.heap.size := fun k e => h.r2.lt k e
  have gs := grownBy_setCell w6 T 5 v'
  have ne2 : ∀ k, k < B → some k ≠ v1.ownBlock := fun k hk e => by have := hb1 k e.symm; omega
  have neC : ∀ v : Value, (∀ k, v.ownBlock = some k → B ≤ k) → v.ownBlock = none ∨ v.ownBlock ≠ some T := fun v hv => by
    cases e : v.ownBlock with
    | none => exact .inl rfl
    | some k => refine .inr fun e2 => ?_; cases e2; have := hv _ e; omega
  have ne21 : v2.ownBlock = none ∨ v2.ownBlock ≠ v1.ownBlock := by
    rcases h.ne with h1 | h1
    · cases e : v2.ownBlock with
      | none => exact .inl rfl
      | some k => refine .inr fun e2 => ?_; rw [h1] at e2; cases e2
    · exact .inr fun e => h1 e.symm
  refine ⟨(h.f.kept hG (ne2 _ (by omega))).kept gs (by simp; omega), ?_, (h.c.kept hG (ne2 _ (by omega))).kept gs (by simp; omega), ?_, ?_, ?_, ?_, ⟨o1, o2, o3, o4, ?_⟩⟩
  · exact (h.t.kept hG (ne2 _ (by omega))).stored 5 v'
  · rw [tots_snoc, if_neg hx]
    exact hO.kept gs (neC _ hb')
  · rw [cres_snoc, if_neg hx]
    exact (h.r2.kept hG ne21).kept gs (neC _ fun k e => (hb2 k e).1)
  · cases e : v'.ownBlock with
    | none => exact .inl rfl
    | some k =>
      refine .inr fun e2 => ?_
      rcases hat with h1 | h1
      · rcases ne21 with h2 | h2
        · rw [h2] at e2; cases e2
        · exact h2 (by rw [← e2, ← e, h1])
      · have := (hb2 k e2.symm).2
        rw [e] at h1
        cases h1
        omega
  · exact ((h.b.grown hG h.b.size (fun k e => by have := hb1 k e; omega)).setCell (by show w0.heap.size ≤ T; omega) _)
  · have := hG.size
    simp
    omega
theorem cells_two_new (w : World) (s : Nat) (hs : s = w.heap.size) (x y : Value) (t : TypeId) : ∀ j u, [x, y][j]? = some u → (w.alloc (.cells #[x, y] t)).cell? ((⟨s, 0, none⟩ : Addr).add j) = some u := by
  subst hs
  intro j u hu
  rw [Addr.add_mid]
  have := (Blk.new w t [x, y]).cell (0 + j)
  rw [Nat.zero_add] at *
  exact this.trans hu

end Go.Proofs.Ybulkadpk
