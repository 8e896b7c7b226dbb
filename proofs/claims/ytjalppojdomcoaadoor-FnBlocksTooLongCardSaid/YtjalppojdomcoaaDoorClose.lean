/- From a law's walk to its row: the arguments read behind the call as they did. Condition: the law changes nothing that was there. -/
import Derived.Test.YtjalppojdomcoaaDoorLay
import Derived.Test.YtjalppojdomcoaaDoorBase
import Derived.Carry
set_option maxRecDepth 100000
namespace Go.HE
open Go Go.ChangeShapes Go.WideShapes Go.ChangeAt Go.RowKit Go.Proofs

theorem trodAll_below {H : Type} {enc : TypeId × Value → H} {P : Program} (hl : laidOutB P = true) {W W' : World} (hb : Below W.heap.size W W') : ∀ (ts : List TypeId) (vs : List Value) (ds : List (DataW H)) (ps : List MemPlace),
    (ts.all fun t => P.readableRec t && decide (t < P.types.size)) = true → DataW.TrodAll enc P W 0 (fun _ => true) true ts vs ds ps → (∀ x ∈ ps, x.block < W.heap.size) → DataW.TrodAll enc P W' 0 (fun b => decide (b < W.heap.size)) true ts vs ds ps
  | [], vs, ds, ps, _, h, _ => by
    obtain ⟨rfl, rfl, rfl⟩ := trodAll_nil h
    exact trodAll_mk0
  | t :: ts, vs, ds, ps, hr, h, hlt => by
    simp only [List.all_cons, Bool.and_eq_true, decide_eq_true_eq] at hr
    obtain ⟨v, vs', d, ds', p, q, rfl, rfl, rfl, h1, h2⟩ := trodAll_cons h
    exact trodAll_cons_mk (Below.trod hl hr.1.1 hr.1.2 h1 hb (fun x hx => hlt x (List.mem_append_left _ hx)))
      (trodAll_below hl hb ts vs' ds' q hr.2 h2 (fun x hx => hlt x (List.mem_append_right _ hx)))

/-- A law that returns true and leaves what was there. -/
theorem law_post {H : Type} {enc : TypeId × Value → H} {P : Program} {fn : Func} {s : ChangeSpec} {W W' : World} {args : Array Value} {ds gs : List (DataW H)} {before : List MemPlace} {tb : TypeId}
    (hl : laidOutB P = true) (hr : (fn.params.toList.all fun t => P.readableRec t && decide (t < P.types.size)) = true) (hb : Below W.heap.size W W') (hW : DataW.Whole enc P fn.params.toList s.vars false W args.toList ds gs before)
    (hv : s.vars = []) (hrt : fn.resultTypes = #[tb]) (hu : P.underlying tb = some .bool) (hf : s.fn H (ds ++ gs) = { results := [.lit (.bool true)], args := ds }) :
    s.post enc P fn false true false false W args (.bool true) W' := by
  have hlt := hW.lt
  have hW' := hW
  obtain ⟨p, q, hA, hV, rfl, _, _⟩ := hW
  rw [hv] at hV
  obtain ⟨rfl, rfl⟩ := trodVars_none hV
  refine ⟨_, _, _, [], p, [], hW', ?_, ?_, ?_, hb.frame _, fun h => by cases h⟩
  · rw [hf, hrt]
    exact trodAll_cons_mk (shut_bool hu _) trodAll_mk0
  · rw [hf]
    exact trodAll_below hl hb _ _ _ _ hr hA (fun x hx => hlt x (List.mem_append_left _ hx))
  · rw [hf, hv]
    rfl

open Go.Proofs.YtjalppojdomcoaaDoor in
theorem bulk_one {H : Type} (d : DataW H) : 1 ≤ Rows.uptoBulk d := by
  cases d with
  | lit l => cases l <;> simp [Rows.uptoBulk]
  | _ => simp [Rows.uptoBulk]
open Go.Proofs.YtjalppojdomcoaaDoor in
theorem bulk_len {H : Type} (l : List (DataW H)) : l.length ≤ Rows.uptoBulkAll l := by
  induction l with
  | nil => simp [Rows.uptoBulkAll]
  | cons x r ih => have := bulk_one x; simp only [Rows.uptoBulkAll, List.length_cons]; omega
end Go.HE
