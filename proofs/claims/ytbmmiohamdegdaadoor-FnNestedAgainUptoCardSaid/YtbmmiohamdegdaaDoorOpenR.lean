/- Arguments that are lists of lists of strings, opened. Conditions: the rows' own. -/
import Derived.Test.YtbmmiohamdegdaaDoorOpenS
import Derived.Test.YtbmmiohamdegdaaDoorNestedA
import Derived.Deep.Slices
set_option maxRecDepth 100000
namespace Go.HE
open Go Go.RowKit Go.ChangeShapes Go.Proofs Go.Lib Go.Joins

section
variable {H : Type} {enc : TypeId × Value → H} {W : World}
open Go.Proofs.YtbmmiohamdegdaaDoor in
theorem row_bulk {d : DataW H} {ts : List (List UInt8)} (h : (ts = [] ∧ d = .nil) ∨ ∃ sp, d = .slice (ts.map fun t => .lit (.string t)) sp) : ts.flatten.length + ts.length + 1 ≤ Rows.uptoBulk d := by
  rcases h with ⟨rfl, rfl⟩ | ⟨sp, rfl⟩
  · simp [Rows.uptoBulk]
  · have := bulk_strs (H := H) ts
    simp only [Rows.uptoBulk]
    omega
open Go.Proofs.YtbmmiohamdegdaaDoor in
theorem rows_bulk {D : Nat → DataW H} : ∀ (lss : List (List (List UInt8))) (k : Nat), (∀ i ls, lss[i]? = some ls → ls.flatten.length + ls.length + 1 ≤ Rows.uptoBulk (D (k + i))) → sizeR lss ≤ Rows.uptoBulkAll ((List.range lss.length).map fun i => D (k + i))
  | [], _, _ => by simp [sizeR, Rows.uptoBulkAll]
  | ls :: lss, k, h => by
    have h0 := h 0 ls rfl
    have ih := rows_bulk lss (k + 1) fun i x hi => by
      have := h (i + 1) x (by simpa using hi)
      rwa [show k + (i + 1) = k + 1 + i by omega] at this
    rw [sizeR_cons, List.length_cons, List.range_succ_eq_map, List.map_cons, List.map_map]
    have e : (List.range lss.length).map ((fun i => D (k + i)) ∘ Nat.succ) = (List.range lss.length).map fun i => D (k + 1 + i) := List.map_congr_left fun i _ => by
      show D (k + (i + 1)) = _
      rw [show k + (i + 1) = k + 1 + i by omega]
    rw [e]
    simp only [Rows.uptoBulkAll]
    simp only [Nat.add_zero] at h0 ⊢
    omega
open Go.Proofs.YtbmmiohamdegdaaDoor in
theorem open_rows {r : Reach} {b0 : Nat} {v : Value} {d : DataW H} {p : List MemPlace} (hv : Value.okWide Tryd.prog W r b0 47 v) (h : DataW.Trod enc Tryd.prog W 0 (fun _ => true) true 47 v d p) :
    ∃ lss : List (List (List UInt8)), RowsW W v lss ∧ sizeR lss ≤ Rows.uptoBulk d := by
  obtain ⟨a0, len, cap, rfl⟩ := Go.WideShapes.okWide_slice Tryd.underlying47 hv
  obtain ⟨fuel, hf⟩ := h
  rcases Go.Deep.open_slice1 Tryd.underlying47 (by kernel_rfl) hf with ⟨hp, hy⟩ | ⟨a, len1, cap1, m, n, V, D, Pl, hp, _, hl, hm, hmm, hx1, hx⟩
  · cases hp
    exact ⟨[], ⟨none, 0, rfl, by simp, fun i p h => by simp at h⟩, by simp [sizeR]⟩
  · cases hp
    simp only [if_true] at hmm
    have each : ∀ i : Nat, ∃ ts : List (List UInt8), i < len → Strs W [] (V i) ts ∧ ((ts = [] ∧ D i = .nil) ∨ ∃ sp, D i = .slice (ts.map fun t => .lit (.string t)) sp) := fun i => by
      by_cases hi : i < len
      · obtain ⟨ts, h1, h2⟩ := strs_of (hx i (by omega)).2
        exact ⟨ts, fun _ => ⟨h1, h2⟩⟩
      · exact ⟨[], fun h => absurd h hi⟩
    obtain ⟨T, hT⟩ := Classical.axiomOfChoice each
    have hget : ∀ (i : Nat) ls, ((List.range len).map T)[i]? = some ls → i < len ∧ ls = T i := fun i ls hi => by
      have hlt := (List.getElem?_eq_some_iff.1 hi).1
      simp at hlt
      refine ⟨hlt, ?_⟩
      rw [List.getElem?_map, List.getElem?_range hlt] at hi
      exact (Option.some.inj hi).symm
    refine ⟨(List.range len).map T, ⟨some a, cap, by simp, by simp; omega, fun i ls hi => ?_⟩, ?_⟩
    · obtain ⟨hlt, rfl⟩ := hget i ls hi
      have hc := (hx i (by omega)).1
      obtain ⟨b, off, spot⟩ := a
      cases spot with
      | none => exact ⟨b, off, V i, rfl, by rw [← hc, add_none], (hT i hlt).1⟩
      | some q =>
        have h0 := (hx 0 (by omega)).1
        simp [Addr.add, World.cell?] at h0
        split at h0 <;> simp at h0
    · have hd := (Prod.ext_iff.1 hx1).1
      simp only at hd
      rw [hd]
      have := rows_bulk (D := D) ((List.range len).map T) 0 fun i ls hi => by
        obtain ⟨hlt, rfl⟩ := hget i ls hi
        rw [Nat.zero_add]
        exact row_bulk (hT i hlt).2
      simp only [List.length_map, List.length_range, Nat.zero_add] at this
      have h9 : sizeR ((List.range len).map T) ≤ Rows.uptoBulkAll ((List.range len).map D) := this
      simp only [Rows.uptoBulk]
      omega
end
end Go.HE
