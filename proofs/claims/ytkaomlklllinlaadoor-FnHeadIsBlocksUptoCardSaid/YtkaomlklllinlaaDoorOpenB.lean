/- Arguments that are split functions' kinds, opened. Conditions: the rows' own. -/
import Derived.Test.YtkaomlklllinlaaDoorOpen
import Derived.Test.YtkaomlklllinlaaDoorLayered
set_option maxRecDepth 100000
namespace Go.HE
open Go Go.RowKit Go.ChangeShapes Go.Proofs Go.Lib Go.Joins Go.WideShapes

theorem array5 {α : Type} {cs : Array α} (h : cs.size = 5) : ∃ c0 c1 c2 c3 c4, cs = #[c0, c1, c2, c3, c4] := by
  obtain ⟨l⟩ := cs
  match l, h with
  | [c0, c1, c2, c3, c4], _ => exact ⟨c0, c1, c2, c3, c4, rfl⟩
section
variable {H : Type} {enc : TypeId × Value → H} {W : World}
theorem open_base {r : Reach} {b0 : Nat} {v : Value} {d : DataW H} {p : List MemPlace} (hv : Value.okWide Tryd.prog W r b0 28 v) (h : DataW.Trod enc Tryd.prog W 0 (fun _ => true) true 28 v d p) :
    ∃ (b : Bs) (d0 d1 d3 d4 : DataW H), v = .agg b.cells.toArray ∧ d = .agg [d0, d1, .lit (.string b.x), d3, d4] ∧ inI b.n := by
  have hs : Tryd.prog.underlying 28 = _ := Tryd.underlying28
  obtain ⟨cs, rfl, hsz⟩ := okWide_struct hs hv
  obtain ⟨c0, c1, c2, c3, c4, rfl⟩ := array5 (hsz.trans (by kernel_rfl))
  obtain ⟨fuel, hf⟩ := h
  obtain ⟨xs, n, _, hx, hl, hlen, hf⟩ := DataW.trod_struct hs hf
  match xs, hlen with
  | [y0, y1, y2, y3, y4], _ =>
    have h0 := hf 0 _ rfl
    have h1 := hf 1 _ rfl
    have h2 := hf 2 _ rfl
    have h3 := hf 3 _ rfl
    have h4 := hf 4 _ rfl
    simp only [Value.cells] at h0 h1 h2 h3 h4
    obtain ⟨k, hk, e0, _⟩ := DataW.trod_int Tryd.underlying3 h0
    obtain ⟨m, hm, e1, hw1⟩ := DataW.trod_int Tryd.underlying3 h1
    obtain ⟨s, hs2, e2, _⟩ := DataW.trod_string Tryd.underlying9 h2
    obtain ⟨a, ha, e3, hw3⟩ := DataW.trod_int Tryd.underlying5 h3
    obtain ⟨e, he, e4, hw4⟩ := DataW.trod_int Tryd.underlying5 h4
    cases hk; cases hm; cases hs2; cases ha; cases he
    have x1 : IntKind.i64.max = 9223372036854775807 := by decide
    have x2 : IntKind.i64.min = -9223372036854775808 := by decide
    have x3 : IntKind.u8.max = 255 := by decide
    have x4 : IntKind.u8.min = 0 := by decide
    simp only [Lit.wf, Bool.and_eq_true, decide_eq_true_eq, x1, x2] at hw1
    simp only [Lit.wf, Bool.and_eq_true, decide_eq_true_eq, x3, x4] at hw3 hw4
    obtain ⟨a8, ea⟩ : ∃ c8 : UInt8, ((c8.toNat : Nat) : Int) = a := ⟨UInt8.ofNat a.toNat, by rw [UInt8.toNat_ofNat']; omega⟩
    obtain ⟨e8, ee⟩ : ∃ c8 : UInt8, ((c8.toNat : Nat) : Int) = e := ⟨UInt8.ofNat e.toNat, by rw [UInt8.toNat_ofNat']; omega⟩
    subst ea ee
    refine ⟨⟨k, m, s.data.toList, a8, e8⟩, y0.1, y1.1, y3.1, y4.1, ?_, ?_, hw1⟩
    · show Value.agg #[_, _, .string s, _, _] = Value.agg #[_, _, str s.data.toList, _, _]
      rw [str_of]; rfl
    · have := (Prod.ext_iff.1 hx).1
      simp only at this
      rw [this, e2]; rfl
end
end Go.HE
