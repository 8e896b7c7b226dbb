/- The arguments of the laws, opened. Conditions: the rows' own. -/
import Derived.Test.YtjalppojdomcoaaDoorRead
import Derived.Lib.SmallJoins
import Derived.ChangeSlices
import Derived.ProofKit
import Derived.ChangeMaps5
set_option maxRecDepth 100000
namespace Go.HE
open Go Go.RowKit Go.ChangeShapes Go.Proofs Go.Lib Go.Joins

section
variable {H : Type} {enc : TypeId × Value → H} {W : World}
theorem open_room {r : Reach} {b0 : Nat} {v : Value} {d : DataW H} {p : List MemPlace} (hv : Value.okWide Tryd.prog W r b0 29 v) (h : DataW.Trod enc Tryd.prog W 0 (fun _ => true) true 29 v d p) :
    ∃ c most : Int, v = .agg #[.int .i64 c, .int .i64 most] ∧ most ≤ 9223372036854775807 := by
  obtain ⟨v0, v1, y0, y1, n, rfl, _, _, h0, h1⟩ := open_agg2 Tryd.underlying29 (by kernel_rfl) (by kernel_rfl) hv h
  obtain ⟨c, hc, _, _⟩ := DataW.trod_int Tryd.underlying3 h0
  obtain ⟨m, hm, _, hw⟩ := DataW.trod_int Tryd.underlying3 h1
  cases hc; cases hm
  refine ⟨c, m, rfl, ?_⟩
  have e : IntKind.i64.max = 9223372036854775807 := by decide
  simp only [Lit.wf, Bool.and_eq_true, decide_eq_true_eq, e] at hw
  exact hw.2

theorem pieces_of {n : Nat} {v : Value} {y : DataW H × List MemPlace} (h : DataW.trod enc Tryd.prog W 0 (fun _ => true) true n 25 [v] = some y) :
    ∃ ps : List Int, Pcs W v ps ∧ (ps = [] ∨ ∃ es sp, y.1 = .slice es sp ∧ es.length = ps.length) := by
  rcases open_ints Tryd.underlying25 Tryd.underlying3 (by kernel_rfl) h with ⟨hp, _⟩ | ⟨a, len, cap, zs, hp, _, hlc, hcm, hz, hx1, hcell, _⟩
  · cases hp
    exact ⟨[], ⟨none, 0, rfl, fun i p h => by simp at h⟩, .inl rfl⟩
  · cases hp
    rw [if_pos rfl] at hz
    have hl : (zs.take len).length = len := by simp; omega
    refine ⟨zs.take len, ⟨some a, cap, by rw [hl], fun i p hi => ?_⟩, .inr ⟨_, _, by rw [hx1], by simp [lits]⟩⟩
    have hlt : i < (zs.take len).length := (List.getElem?_eq_some_iff.1 hi).1
    have hlt2 : i < zs.length := by omega
    have hc := hcell i hlt2
    have hp : zs.getD i 0 = p := by
      rw [List.getElem?_take_of_lt (by omega)] at hi
      simp [List.getD, hi]
    rw [hp] at hc
    obtain ⟨b, off, spot⟩ := a
    cases spot with
    | none => exact ⟨b, off, rfl, by rw [← hc, add_none]⟩
    | some q =>
      have h0 := hcell 0 (by omega)
      simp [Addr.add, World.cell?] at h0
      split at h0 <;> simp at h0

theorem open_pieces {r : Reach} {b0 : Nat} {v : Value} {d : DataW H} {p : List MemPlace} (hv : Value.okWide Tryd.prog W r b0 25 v) (h : DataW.Trod enc Tryd.prog W 0 (fun _ => true) true 25 v d p) :
    ∃ ps : List Int, Pcs W v ps ∧ (ps = [] ∨ ∃ es sp, d = .slice es sp ∧ es.length = ps.length) := by
  obtain ⟨a, len, cap, rfl⟩ := Go.WideShapes.okWide_slice Tryd.underlying25 hv
  obtain ⟨fuel, hf⟩ := h
  exact pieces_of hf
theorem open_str {r : Reach} {b0 : Nat} {v : Value} {d : DataW H} {p : List MemPlace} (hv : Value.okWide Tryd.prog W r b0 9 v) (h : DataW.Trod enc Tryd.prog W 0 (fun _ => true) true 9 v d p) : ∃ s : List UInt8, v = str s ∧ d = .lit (.string s) := by
  obtain ⟨s, hs, hy, _⟩ := Go.ChangeMaps.open_string Tryd.underlying9 hv h
  exact ⟨s.data.toList, by rw [hs, str_of], hy⟩
theorem open_i64 {r : Reach} {b0 : Nat} {v : Value} {d : DataW H} {p : List MemPlace} (hv : Value.okWide Tryd.prog W r b0 3 v) (h : DataW.Trod enc Tryd.prog W 0 (fun _ => true) true 3 v d p) : ∃ n : Int, v = .int .i64 n ∧ d = .lit (.int .i64 n) ∧ inI n := by
  obtain ⟨n, hn, hy, _, hw⟩ := open_int Tryd.underlying3 hv h
  refine ⟨n, hn, hy, ?_⟩
  have e : IntKind.i64.max = 9223372036854775807 := by decide
  have e2 : IntKind.i64.min = -9223372036854775808 := by decide
  simp only [Lit.wf, Bool.and_eq_true, decide_eq_true_eq, e, e2] at hw
  exact hw
theorem open_u8 {r : Reach} {b0 : Nat} {v : Value} {d : DataW H} {p : List MemPlace} (hv : Value.okWide Tryd.prog W r b0 5 v) (h : DataW.Trod enc Tryd.prog W 0 (fun _ => true) true 5 v d p) : ∃ n : Int, v = .int .u8 n ∧ d = .lit (.int .u8 n) ∧ 0 ≤ n ∧ n ≤ 255 := by
  obtain ⟨n, hn, hy, _, hw⟩ := open_int Tryd.underlying5 hv h
  refine ⟨n, hn, hy, ?_⟩
  have e : IntKind.u8.max = 255 := by decide
  have e2 : IntKind.u8.min = 0 := by decide
  simp only [Lit.wf, Bool.and_eq_true, decide_eq_true_eq, e, e2] at hw
  exact hw
theorem open_b {r : Reach} {b0 : Nat} {v : Value} {d : DataW H} {p : List MemPlace} (hv : Value.okWide Tryd.prog W r b0 4 v) (h : DataW.Trod enc Tryd.prog W 0 (fun _ => true) true 4 v d p) : ∃ b : Bool, v = .bool b ∧ d = .lit (.bool b) := by
  obtain ⟨b, hb, hy, _⟩ := open_bool Tryd.underlying4 hv h
  exact ⟨b, hb, hy⟩

theorem open_source {r : Reach} {b0 : Nat} {v : Value} {d : DataW H} {p : List MemPlace} (hv : Value.okWide Tryd.prog W r b0 27 v) (h : DataW.Trod enc Tryd.prog W 0 (fun _ => true) true 27 v d p) :
    ∃ (text : List UInt8) (pv : Value) (tog brk : Bool) (ps : List Int) (d1 : DataW H), v = .agg #[str text, pv, .bool tog, .bool brk] ∧ d = .agg [.lit (.string text), d1, .lit (.bool tog), .lit (.bool brk)] ∧ Pcs W pv ps ∧ (ps = [] ∨ ∃ es sp, d1 = .slice es sp ∧ es.length = ps.length) := by
  obtain ⟨v0, v1, v2, v3, y0, y1, y2, y3, n, rfl, rfl, _, h0, h1, h2, h3⟩ := open_agg4 Tryd.underlying27 (by kernel_rfl) (by kernel_rfl) hv h
  obtain ⟨s, hs, hy0, _⟩ := DataW.trod_string Tryd.underlying9 h0
  obtain ⟨t, ht, hy2⟩ := DataW.trod_bool Tryd.underlying4 h2
  obtain ⟨k, hk, hy3⟩ := DataW.trod_bool Tryd.underlying4 h3
  cases hs; cases ht; cases hk
  subst hy0 hy2 hy3
  obtain ⟨ps, hps, hd⟩ := pieces_of h1
  exact ⟨s.data.toList, v1, t, k, ps, y1.1, by rw [str_of], rfl, hps, hd⟩
end
end Go.HE
