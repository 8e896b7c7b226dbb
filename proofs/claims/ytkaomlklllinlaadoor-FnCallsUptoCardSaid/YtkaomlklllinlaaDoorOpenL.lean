/- Arguments that are lists of layers, opened. Conditions: the rows' own. -/
import Derived.Test.YtkaomlklllinlaaDoorOpen
import Derived.Test.YtkaomlklllinlaaDoorLayered
import Derived.Deep.Slices
import Derived.Deep.Strs
/- Arguments that are split functions' kinds, opened. Conditions: the rows' own. -/
set_option maxRecDepth 100000
namespace Go.HE
open Go Go.RowKit Go.ChangeShapes Go.Proofs Go.Lib Go.Joins Go.WideShapes

theorem array5 {α : Type} {cs : Array α} (h : cs.size = 5) : ∃ c0 c1 c2 c3 c4, cs = #[c0, c1, c2, c3, c4] := by
  obtain ⟨l⟩ := cs
  match l, h with
  | [c0, c1, c2, c3, c4], _ => exact ⟨c0, c1, c2, c3, c4, rfl⟩
section
variable {H : Type} {enc : TypeId × Value → H} {W : World}
theorem open_base {r : Reach} {b0 : Nat} {v : Value} {d : DataW H} {p : List MemPlace} (hv : Value.okWide Tryd.prog W r b0 28 v) (h : DataW.Trod enc Tryd.prog W 0 (fun _ => true) true 28 v d p) :
    ∃ (b : Bs) (d0 d1 d3 d4 : DataW H), v = .agg b.cells.toArray ∧ d = .agg [d0, d1, .lit (.string b.x), d3, d4] ∧ inI b.n := by
  have hs : Tryd.prog.underlying 28 = _ := Tryd.underlying28
  obtain ⟨cs, rfl, hsz⟩ := okWide_struct hs hv
  obtain ⟨c0, c1, c2, c3, c4, rfl⟩ := array5 (hsz.trans (by kernel_rfl))
  obtain ⟨fuel, hf⟩ := h
  obtain ⟨xs, n, _, hx, hl, hlen, hf⟩ := DataW.trod_struct hs hf
  match xs, hlen with
  | [y0, y1, y2, y3, y4], _ =>
    have h0 := hf 0 _ rfl
    have h1 := hf 1 _ rfl
    have h2 := hf 2 _ rfl
    have h3 := hf 3 _ rfl
    have h4 := hf 4 _ rfl
    simp only [Value.cells] at h0 h1 h2 h3 h4
    obtain ⟨k, hk, e0, _⟩ := DataW.trod_int Tryd.underlying3 h0
    obtain ⟨m, hm, e1, hw1⟩ := DataW.trod_int Tryd.underlying3 h1
    obtain ⟨s, hs2, e2, _⟩ := DataW.trod_string Tryd.underlying9 h2
    obtain ⟨a, ha, e3, hw3⟩ := DataW.trod_int Tryd.underlying5 h3
    obtain ⟨e, he, e4, hw4⟩ := DataW.trod_int Tryd.underlying5 h4
    cases hk; cases hm; cases hs2; cases ha; cases he
    have x1 : IntKind.i64.max = 9223372036854775807 := by decide
    have x2 : IntKind.i64.min = -9223372036854775808 := by decide
    have x3 : IntKind.u8.max = 255 := by decide
    have x4 : IntKind.u8.min = 0 := by decide
    simp only [Lit.wf, Bool.and_eq_true, decide_eq_true_eq, x1, x2] at hw1
    simp only [Lit.wf, Bool.and_eq_true, decide_eq_true_eq, x3, x4] at hw3 hw4
    obtain ⟨a8, ea⟩ : ∃ c8 : UInt8, ((c8.toNat : Nat) : Int) = a := ⟨UInt8.ofNat a.toNat, by rw [UInt8.toNat_ofNat']; omega⟩
    obtain ⟨e8, ee⟩ : ∃ c8 : UInt8, ((c8.toNat : Nat) : Int) = e := ⟨UInt8.ofNat e.toNat, by rw [UInt8.toNat_ofNat']; omega⟩
    subst ea ee
    refine ⟨⟨k, m, s.data.toList, a8, e8⟩, y0.1, y1.1, y3.1, y4.1, ?_, ?_, hw1⟩
    · show Value.agg #[_, _, .string s, _, _] = Value.agg #[_, _, str s.data.toList, _, _]
      rw [str_of]; rfl
    · have := (Prod.ext_iff.1 hx).1
      simp only at this
      rw [this, e2]; rfl
end
end Go.HE

set_option maxRecDepth 100000
namespace Go.HE
open Go Go.RowKit Go.ChangeShapes Go.Proofs Go.Lib Go.Joins Go.WideShapes

section
variable {H : Type} {enc : TypeId × Value → H} {W : World}
theorem layer_of {n : Nat} {cs : List Value} {y : DataW H × List MemPlace} (h : DataW.trod enc Tryd.prog W 0 (fun _ => true) true n 34 cs = some y) : ∃ l : Ly, cs = l.cells ∧ inI l.n := by
  obtain ⟨y0, y1, y2, k, _, hl, h0, h1, h2⟩ := Go.Deep.trod_struct3 Tryd.underlying34 h
  have hl3 : cs.length = 3 := hl.trans (by kernel_rfl)
  match cs, hl3 with
  | [c0, c1, c2], _ =>
    obtain ⟨a, ha, _, _⟩ := DataW.trod_int Tryd.underlying3 h0
    obtain ⟨m, hm, _, hw⟩ := DataW.trod_int Tryd.underlying3 h1
    obtain ⟨s, hs, _, _⟩ := DataW.trod_string Tryd.underlying9 h2
    have e0 : [c0] = [Value.int .i64 a] := ha
    have e1 : [c1] = [Value.int .i64 m] := hm
    have e2 : [c2] = [Value.string s] := hs
    cases e0; cases e1; cases e2
    have x1 : IntKind.i64.max = 9223372036854775807 := by decide
    have x2 : IntKind.i64.min = -9223372036854775808 := by decide
    simp only [Lit.wf, Bool.and_eq_true, decide_eq_true_eq, x1, x2] at hw
    refine ⟨⟨a, m, s.data.toList⟩, ?_, hw⟩
    show [_, _, Value.string s] = [_, _, str s.data.toList]
    rw [str_of]
theorem open_layers {r : Reach} {b0 : Nat} {v : Value} {d : DataW H} {p : List MemPlace} (hv : Value.okWide Tryd.prog W r b0 35 v) (h : DataW.Trod enc Tryd.prog W 0 (fun _ => true) true 35 v d p) :
    ∃ ls : List Ly, LaysAt W [] v ls ∧ (∀ l ∈ ls, inI l.n) ∧ (ls = [] ∨ ∃ es sp, d = .slice es sp ∧ es.length = ls.length) := by
  obtain ⟨a0, len, cap, rfl⟩ := Go.WideShapes.okWide_slice Tryd.underlying35 hv
  obtain ⟨fuel, hf⟩ := h
  rcases Go.Deep.open_slice Tryd.underlying35 hf with ⟨hp, _⟩ | ⟨a, len1, cap1, m, n, D, Pl, hp, _, hl, hm, hmm, hx1, hx⟩
  · cases hp
    exact ⟨[], ⟨none, 0, rfl, fun i l hi => by simp at hi⟩, by simp, .inl rfl⟩
  · cases hp
    simp only [if_true] at hmm
    have hc3 : Tryd.prog.cellsOf 34 = 3 := by kernel_rfl
    rw [hc3] at hx
    have each : ∀ i : Nat, ∃ l : Ly, i < len → (∀ j, j < 3 → W.cell? ((a.add (i * 3)).add j) = l.cells[j]?) ∧ inI l.n := fun i => by
      by_cases hi : i < len
      · obtain ⟨cs, h1, h2⟩ := hx i (by omega)
        obtain ⟨l, rfl, hn⟩ := layer_of h2
        exact ⟨l, fun _ => ⟨(World.cells?_some h1).2.2, hn⟩⟩
      · exact ⟨⟨0, 0, []⟩, fun h => absurd h hi⟩
    obtain ⟨T, hT⟩ := Classical.axiomOfChoice each
    refine ⟨(List.range len).map T, ⟨some a, cap, by simp, fun i l hi => ?_⟩, ?_, .inr ⟨_, _, (Prod.ext_iff.1 hx1).1, by simp⟩⟩
    · have hlt := (List.getElem?_eq_some_iff.1 hi).1
      simp at hlt
      rw [List.getElem?_map, List.getElem?_range hlt] at hi
      obtain rfl : T i = l := Option.some.inj hi
      have h0 := (hT 0 (by omega)).1 0 (by omega)
      obtain ⟨b, off, spot⟩ := a
      cases spot with
      | none =>
        refine ⟨b, off, rfl, .inr fun j u hj => ?_⟩
        have hj3 : j < 3 := (List.getElem?_eq_some_iff.1 hj).1
        have := (hT i hlt).1 j hj3
        rw [add_none, add_none, hj] at this
        exact this
      | some q =>
        simp [Addr.add, World.cell?, Ly.cells] at h0
        split at h0 <;> simp at h0
    · intro l hm
      obtain ⟨i, hi, rfl⟩ := List.mem_map.1 hm
      exact (hT i (List.mem_range.1 hi)).2
end
end Go.HE
