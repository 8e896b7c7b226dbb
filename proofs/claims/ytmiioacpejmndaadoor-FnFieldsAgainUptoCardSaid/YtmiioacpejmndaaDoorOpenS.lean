/- Arguments that are lists of strings, opened. Conditions: the rows' own. -/
import Derived.Test.YtmiioacpejmndaaDoorHelp
import Derived.Test.YtmiioacpejmndaaDoorOpen
import Derived.Test.YtmiioacpejmndaaDoorClose
import Derived.SliceStrings
set_option maxRecDepth 100000
namespace Go.HE
open Go Go.RowKit Go.ChangeShapes Go.Proofs Go.Lib Go.Joins

section
variable {H : Type} {enc : TypeId × Value → H} {W : World}
theorem strs_of {n : Nat} {v : Value} {y : DataW H × List MemPlace} (h : DataW.trod enc Tryd.prog W 0 (fun _ => true) true n 28 [v] = some y) :
    ∃ ts : List (List UInt8), Strs W [] v ts ∧ ((ts = [] ∧ y.1 = .nil) ∨ ∃ sp, y.1 = .slice (ts.map fun t => .lit (.string t)) sp) := by
  rcases open_strings Tryd.underlying28 Tryd.underlying9 (by kernel_rfl) h with ⟨hp, hy⟩ | ⟨a, len, cap, ss, hp, _, hlc, hcm, hz, hx1, hcell, _⟩
  · cases hp
    exact ⟨[], ⟨none, 0, rfl, by simp, fun i p h => by simp at h⟩, .inl ⟨rfl, by rw [hy]⟩⟩
  · cases hp
    rw [if_pos rfl] at hz
    have hl : ((ss.take len).map fun s => s.data.toList).length = len := by simp; omega
    refine ⟨(ss.take len).map fun s => s.data.toList, ⟨some a, cap, by rw [hl], by rw [hl]; exact hlc, fun i p hi => ?_⟩, .inr ⟨_, by rw [hx1]; simp only [strs, List.map_map]; rfl⟩⟩
    have hlt : i < ((ss.take len).map fun s => s.data.toList).length := (List.getElem?_eq_some_iff.1 hi).1
    have hlt2 : i < ss.length := by omega
    have hc := hcell i hlt2
    have hp : str p = .string (ss.getD i ByteArray.empty) := by
      rw [List.getElem?_map, List.getElem?_take_of_lt (by omega), List.getElem?_eq_getElem hlt2] at hi
      simp only [Option.map_some, Option.some.injEq] at hi
      rw [← hi, ← str_of]
      simp [List.getD, List.getElem?_eq_getElem hlt2]
    obtain ⟨b, off, spot⟩ := a
    cases spot with
    | none => exact ⟨b, off, rfl, .inr (by rw [hp, ← hc, add_none])⟩
    | some q =>
      have h0 := hcell 0 (by omega)
      simp [Addr.add, World.cell?] at h0
      split at h0 <;> simp at h0
theorem open_strs {r : Reach} {b0 : Nat} {v : Value} {d : DataW H} {p : List MemPlace} (hv : Value.okWide Tryd.prog W r b0 28 v) (h : DataW.Trod enc Tryd.prog W 0 (fun _ => true) true 28 v d p) :
    ∃ ts : List (List UInt8), Strs W [] v ts ∧ ((ts = [] ∧ d = .nil) ∨ ∃ sp, d = .slice (ts.map fun t => .lit (.string t)) sp) := by
  obtain ⟨a, len, cap, rfl⟩ := Go.WideShapes.okWide_slice Tryd.underlying28 hv
  obtain ⟨fuel, hf⟩ := h
  exact strs_of hf
end
open Go.Proofs.YtmiioacpejmndaaDoor in
theorem bulk_strs {H : Type} : ∀ ts : List (List UInt8), Rows.uptoBulkAll (ts.map fun t => (.lit (.string t) : DataW H)) = ts.flatten.length + ts.length
  | [] => rfl
  | t :: ts => by
    have := bulk_strs (H := H) ts
    simp only [List.map_cons, Rows.uptoBulkAll, Rows.uptoBulk, this, List.flatten_cons, List.length_append, List.length_cons]
    omega
end Go.HE
