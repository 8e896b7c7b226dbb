/- Arguments that are automata, opened. Conditions: the rows' own. -/
import Derived.Test.YtmiioacpejmndaaDoorOpen
import Derived.Test.YtmiioacpejmndaaDoorMunch
import Derived.Deep.Grids
set_option maxRecDepth 100000
namespace Go.HE
open Go Go.RowKit Go.ChangeShapes Go.Proofs Go.Lib Go.Joins

section
variable {H : Type} {enc : TypeId × Value → H} {W : World}
theorem addr_plain {a : Addr} {v : Value} (h : W.cell? (a.add 0) = some v) : ∃ b off, a = ⟨b, off, none⟩ := by
  obtain ⟨b, off, spot⟩ := a
  cases spot with
  | none => exact ⟨b, off, rfl⟩
  | some q =>
    simp [Addr.add, World.cell?] at h
    split at h <;> simp at h
theorem rowsI_of {n : Nat} {v : Value} {y : DataW H × List MemPlace} (h : DataW.trod enc Tryd.prog W 0 (fun _ => true) true n 48 [v] = some y) : ∃ rows : List (List Int), RowsI W v rows := by
  rcases Go.Deep.open_slice1 Tryd.underlying48 (by kernel_rfl) h with ⟨hp, _⟩ | ⟨a, len, cap, m, k, V, D, Pl, hp, _, hl, hm, hmm, hx1, hx⟩
  · cases hp
    exact ⟨[], none, 0, rfl, fun i p h => by simp at h⟩
  · cases hp
    simp only [if_true] at hmm
    have each : ∀ i : Nat, ∃ ps : List Int, i < len → Pcs W (V i) ps := fun i => by
      by_cases hi : i < len
      · obtain ⟨ps, h1, _⟩ := pieces_of (hx i (by omega)).2
        exact ⟨ps, fun _ => h1⟩
      · exact ⟨[], fun h => absurd h hi⟩
    obtain ⟨T, hT⟩ := Classical.axiomOfChoice each
    refine ⟨(List.range len).map T, some a, cap, by simp, fun i row hi => ?_⟩
    have hlt := (List.getElem?_eq_some_iff.1 hi).1
    simp at hlt
    rw [List.getElem?_map, List.getElem?_range hlt] at hi
    obtain rfl : T i = row := Option.some.inj hi
    obtain ⟨b, off, rfl⟩ := addr_plain (hx 0 (by omega)).1
    exact ⟨b, off, V i, rfl, by rw [← (hx i (by omega)).1, add_none], hT i hlt⟩
theorem boolsW_of {n : Nat} {v : Value} {y : DataW H × List MemPlace} (h : DataW.trod enc Tryd.prog W 0 (fun _ => true) true n 49 [v] = some y) : ∃ bs : List Bool, BoolsW W v bs := by
  rcases Go.Deep.open_bools Tryd.underlying49 Tryd.underlying4 (by kernel_rfl) h with ⟨hp, _⟩ | ⟨a, len, cap, B, hp, _, hl, hm, _, hx⟩
  · cases hp
    exact ⟨[], none, 0, rfl, fun i p h => by simp at h⟩
  · cases hp
    refine ⟨(List.range len).map B, some a, cap, by simp, fun i x hi => ?_⟩
    have hlt := (List.getElem?_eq_some_iff.1 hi).1
    simp at hlt
    rw [List.getElem?_map, List.getElem?_range hlt] at hi
    obtain rfl : B i = x := Option.some.inj hi
    obtain ⟨b, off, rfl⟩ := addr_plain (hx 0 (by omega))
    exact ⟨b, off, rfl, by rw [← hx i (by omega), add_none]⟩
theorem open_machine {r : Reach} {b0 : Nat} {v : Value} {d : DataW H} {p : List MemPlace} (hv : Value.okWide Tryd.prog W r b0 51 v) (h : DataW.Trod enc Tryd.prog W 0 (fun _ => true) true 51 v d p) :
    ∃ (M : Au) (nv fv : Value), v = .agg #[.int .i64 M.classes, nv, fv] ∧ Mach W nv fv M := by
  obtain ⟨v0, v1, v2, y0, y1, y2, n, rfl, _, _, h0, h1, h2⟩ := open_agg3 Tryd.underlying51 (by kernel_rfl) (by kernel_rfl) hv h
  obtain ⟨c, hc, _, _⟩ := DataW.trod_int Tryd.underlying3 h0
  cases hc
  obtain ⟨rows, hr⟩ := rowsI_of h1
  obtain ⟨bs, hb⟩ := boolsW_of h2
  exact ⟨⟨c, rows, bs⟩, v1, v2, rfl, hr, hb⟩
end
end Go.HE
