import Derived.Test.YbulkadjmFmtParts
import Derived.ProofKit
import Derived.OpenShut
import Derived.Deep.Slices
namespace Go.Proofs.YbulkadjmFmt
open Go.ChangeShapes Go.WideShapes Go.ChangeAt Go.RowKit Go.Deep
theorem arg_open {H : Type} {enc : TypeId × Value → H} {W : World} {base : Nat} {fuel : Nat} {a : Option Addr} {len cap : Nat} {x : DataW H × List MemPlace}
    (h : DataW.trod enc Ybaf.prog W base (fun _ => true) true fuel 23 [.slice a len cap] = some x) : ∃ l : List Int, l.length = len ∧ Arg W a l ∧ (a = none → cap = 0) := by
  rcases open_ints Ybaf.underlying23 Ybaf.underlying5 (by kernel_rfl) h with ⟨hcs, _⟩ | ⟨y, l, c, zs, hcs, _, hl, hm, hz, _, hcell, hwz⟩
  · simp at hcs
    obtain ⟨rfl, rfl, rfl⟩ := hcs
    exact ⟨[], rfl, ⟨by simp, by simp, fun h => by simp at h⟩, fun _ => rfl⟩
  · simp at hcs
    obtain ⟨rfl, rfl, rfl⟩ := hcs
    have hzl : zs.length = cap := by simpa using hz
    refine ⟨zs.take len, by simp; omega, ⟨fun x hx => bounds_u8 (hwz x (List.mem_of_mem_take hx)), by simp; unfold maxLen at hm; omega, fun hp => ?_⟩, fun h => by cases h⟩
    simp only [List.length_take] at hp
    obtain ⟨b, off, spot⟩ := y
    have hspot : spot = none := by simpa [Addr.add] using World.cell?_spot (hcell 0 (by omega))
    subst hspot
    refine ⟨b, off, rfl, fun j hj => ?_⟩
    simp only [List.length_take] at hj
    rw [← Addr.add_lit, hcell j (by omega)]
    simp only [List.getD_eq_getElem?_getD]
    rw [List.getElem?_take_of_lt (by omega)]

theorem rec_open {H : Type} {enc : TypeId × Value → H} {W : World} {base : Nat} {fuel : Nat} {cs : List Value} {x : DataW H × List MemPlace}
    (h : DataW.trod enc Ybaf.prog W base (fun _ => true) true fuel 27 cs = some x) :
    ∃ R : RecV, cs = [.bool R.r.ptr, .bool R.r.opt, .int .u16 R.r.cls, .int .u32 R.r.ttl, .slice R.da R.r.data.length R.dc] ∧ (0 ≤ R.r.cls ∧ R.r.cls ≤ 65535 ∧ 0 ≤ R.r.ttl ∧ R.r.ttl ≤ 4294967295) ∧ Arg W R.da R.r.data ∧ (R.da = none → R.dc = 0) := by
  obtain ⟨xs, n, _, _, hl, hlen, hf⟩ := DataW.trod_struct Ybaf.underlying27 h
  have c27 : Ybaf.prog.cellsOf 27 = 5 := by kernel_rfl
  have c4 : Ybaf.prog.cellsOf 4 = 1 := by kernel_rfl
  have c22 : Ybaf.prog.cellsOf 22 = 1 := by kernel_rfl
  have c25 : Ybaf.prog.cellsOf 25 = 1 := by kernel_rfl
  have c23 : Ybaf.prog.cellsOf 23 = 1 := by kernel_rfl
  rw [c27] at hl
  match cs, hl with
  | [v0, v1, v2, v3, v4], _ =>
    match xs, hlen with
    | [y0, y1, y2, y3, y4], _ =>
      have f0 : DataW.trod enc Ybaf.prog W base (fun _ => true) true n 4 [v0] = some y0 := by have := hf 0 _ rfl; simpa [c4] using this
      have f1 : DataW.trod enc Ybaf.prog W base (fun _ => true) true n 4 [v1] = some y1 := by have := hf 1 _ rfl; simpa [c4] using this
      have f2 : DataW.trod enc Ybaf.prog W base (fun _ => true) true n 22 [v2] = some y2 := by have := hf 2 _ rfl; simpa [c22] using this
      have f3 : DataW.trod enc Ybaf.prog W base (fun _ => true) true n 25 [v3] = some y3 := by have := hf 3 _ rfl; simpa [c25] using this
      have f4 : DataW.trod enc Ybaf.prog W base (fun _ => true) true n 23 [v4] = some y4 := by have := hf 4 _ rfl; simpa [c23] using this
      obtain ⟨b0, e0, _⟩ := DataW.trod_bool Ybaf.underlying4 f0
      obtain ⟨b1, e1, _⟩ := DataW.trod_bool Ybaf.underlying4 f1
      obtain ⟨n2, e2, _, w2⟩ := DataW.trod_int Ybaf.underlying22 f2
      obtain ⟨n3, e3, _, w3⟩ := DataW.trod_int Ybaf.underlying25 f3
      simp only [List.cons.injEq, and_true] at e0 e1 e2 e3
      subst e0; subst e1; subst e2; subst e3
      have hv : ∃ a l c, v4 = .slice a l c := by
        rcases DataW.trod_slice Ybaf.underlying23 f4 with ⟨h0, _⟩ | ⟨a, len, cap, _, _, _, _, h0, _⟩
        · simp at h0; exact ⟨_, _, _, h0⟩
        · simp at h0; exact ⟨_, _, _, h0⟩
      obtain ⟨a, l, c, rfl⟩ := hv
      obtain ⟨data, hdl, hA, hn⟩ := arg_open f4
      subst hdl
      have h2 := bounds_u16 w2
      have h3 := bounds_u32 w3
      exact ⟨⟨⟨b0, b1, n2, n3, data⟩, a, c⟩, rfl, ⟨h2.1, h2.2, h3.1, h3.2⟩, hA, hn⟩

theorem recs_open {H : Type} {enc : TypeId × Value → H} {W : World} {base : Nat} {fuel : Nat} {a : Option Addr} {len cap : Nat} {x : DataW H × List MemPlace}
    (h : DataW.trod enc Ybaf.prog W base (fun _ => true) true fuel 24 [.slice a len cap] = some x) : ∃ rs : List RecV, rs.length = len ∧ len ≤ 9223372036854775807 ∧ (0 < rs.length → ∃ b o, a = some ⟨b, o, none⟩ ∧ RecsAt W b o rs) := by
  have c27 : Ybaf.prog.cellsOf 27 = 5 := by kernel_rfl
  rcases open_slice Ybaf.underlying24 h with ⟨hcs, _⟩ | ⟨y, l, c, m, n, D, Pl, hcs, _, hl, hm, hmm, _, hel⟩
  · simp at hcs
    obtain ⟨rfl, rfl, rfl⟩ := hcs
    exact ⟨[], rfl, by omega, fun h => by simp at h⟩
  · simp at hcs
    obtain ⟨rfl, rfl, rfl⟩ := hcs
    have hmc : m = cap := by simpa using hmm
    have inh : Inhabited RecV := ⟨dflt⟩
    obtain ⟨f, hf⟩ := choose_lt (n := len) (p := fun i (R : RecV) => (∀ k, k < 5 → W.cell? ((y.add (i * 5)).add k) = [Value.bool R.r.ptr, .bool R.r.opt, .int .u16 R.r.cls, .int .u32 R.r.ttl, .slice R.da R.r.data.length R.dc][k]?) ∧
        (0 ≤ R.r.cls ∧ R.r.cls ≤ 65535 ∧ 0 ≤ R.r.ttl ∧ R.r.ttl ≤ 4294967295) ∧ Arg W R.da R.r.data ∧ (R.da = none → R.dc = 0)) (by
      intro i hi
      obtain ⟨cs', h1, h2⟩ := hel i (by omega)
      rw [c27] at h1
      obtain ⟨R, rfl, r1, r2, r3⟩ := rec_open h2
      exact ⟨R, (World.cells?_some h1).2.2, r1, r2, r3⟩)
    refine ⟨(List.range len).map f, by simp, by unfold maxLen at hm; omega, fun hp => ?_⟩
    have hp' : 0 < len := by simpa using hp
    have hg : ∀ i, i < len → ((List.range len).map f).getD i dflt = f i := fun i hi => by simp [List.getD_eq_getElem?_getD, hi]
    obtain ⟨b, off, spot⟩ := y
    have h00 := (hf 0 hp').1 0 (by omega)
    have hspot : spot = none := by
      have := World.cell?_spot (v := .bool (f 0).r.ptr) (by simpa using h00)
      simpa [Addr.add] using this
    subst hspot
    have hlen : ((List.range len).map f).length = len := by simp
    refine ⟨b, off, rfl, ⟨?_, ?_, ?_, ?_, ?_, ?_, ?_, ?_⟩⟩ <;> (intro i hi; rw [hlen] at hi; rw [hg i hi])
    · simpa [Addr.add_lit] using (hf i hi).1 0 (by omega)
    · simpa [Addr.add_lit] using (hf i hi).1 1 (by omega)
    · simpa [Addr.add_lit] using (hf i hi).1 2 (by omega)
    · simpa [Addr.add_lit] using (hf i hi).1 3 (by omega)
    · simpa [Addr.add_lit] using (hf i hi).1 4 (by omega)
    · exact (hf i hi).2.2.1
    · exact (hf i hi).2.2.2
    · exact (hf i hi).2.1
end Go.Proofs.YbulkadjmFmt
