/- With blocks that are greater than the limit, and more bytes than it, nothing is told, and the error is ErrTooLong. Conditions: none beyond the row's own. -/
import Derived.Test.YtjalppojdomcoaaDoorFnBlocksL
import Derived.Test.YtjalppojdomcoaaDoorOpen
import Derived.Test.YtjalppojdomcoaaDoorErrs
import Derived.Test.YtjalppojdomcoaaDoorClose

set_option maxRecDepth 100000
namespace Go.Proofs.YtjalppojdomcoaaDoor.fnBlocksTooLong
open Go Go.ChangeShapes Go.WideShapes Go.ChangeAt Go.RowKit Go.Lib Go.Proofs Go.Proofs.YtjalppojdomcoaaDoor Go.HE
open Go.ChangeMaps (open_string shut_string)

theorem laid_met (os : Os) (args : Array Value) : laidMet Tryd.prog Rows.fnBlocksTooLongRow.laid ((laidWorld os).forCall (fun _ _ => 0) ⟨#[], args, []⟩).memory :=
  laidMet_of_run' 8 (by kernel_rfl) (by kernel_rfl)
theorem reads (os : Os) {H : Type} (enc : TypeId × Value → H) : ∃ places, DataW.whole enc Tryd.prog ((laidWorld os).forCall (fun _ _ => 0) ⟨#[], #[.agg #[.string ⟨#[]⟩, .slice none 0 0, .bool false, .bool false], .agg #[.int .i64 0, .int .i64 0], .int .i64 0], []⟩).memory Tryd.f13.params.toList Rows.fnBlocksTooLongSpec.vars false (#[(.agg #[.string ⟨#[]⟩, .slice none 0 0, .bool false, .bool false] : Value), (.agg #[.int .i64 0, .int .i64 0] : Value), (.int .i64 0 : Value)] : Array Value).toList 8 = some ([.agg [.lit (.string []), .nil, .lit (.bool false), .lit (.bool false)], .agg [.lit (.int .i64 0), .lit (.int .i64 0)], .lit (.int .i64 0)], [], places) :=
  ⟨[], by kernel_rfl⟩

theorem contract (H : Type) (enc : TypeId × Value → H) (W : World) (base : Nat) (args : Array Value) (ds gs : List (DataW H)) (before : List MemPlace)
    (hval : ∀ (j : Nat) t v, Tryd.f13.params[j]? = some t → args[j]? = some v → Value.okWide Tryd.prog W .any base t v)
    (hW : DataW.Whole enc Tryd.prog Tryd.f13.params.toList Rows.fnBlocksTooLongSpec.vars false W args.toList ds gs before) (hZ : (DataW.weightsEach Tryd.prog (Tryd.f13.params.toList ++ (OpenSpec.ofChange Rows.fnBlocksTooLongSpec).bare.plain.varTypes Tryd.prog) (ds ++ gs)).all (· ≤ reachBytes) = true) (hL : laidMetH Tryd.prog Rows.fnBlocksTooLongRow.laid W) :
    Calls Tryd.prog 13 args W fun e W' => ∃ v, e = .returned v ∧ Rows.fnBlocksTooLongSpec.post enc Tryd.prog Tryd.f13 false true false false W args v W' := by
  obtain ⟨E, hE⟩ := errs_of (W := W) hL
  have hW' := hW
  obtain ⟨p, q, hA0, hV, rfl, hfz, hnd⟩ := hW
  have hA : DataW.TrodAll enc Tryd.prog W 0 (fun _ => true) true Tryd.f13.params.toList args.toList ds p := hA0
  rw [Tryd.params13] at hA hval
  obtain ⟨v0, vs0, d0, ds0, p0, q0, hargs, rfl, rfl, h0, r0⟩ := trodAll_cons hA
  obtain ⟨v1, vs1, d1, ds1, p1, q1, rfl, rfl, rfl, h1, r1⟩ := trodAll_cons r0
  obtain ⟨v2, vs2, d2, ds2, p2, q2, rfl, rfl, rfl, h2, r2⟩ := trodAll_cons r1
  obtain ⟨rfl, rfl, rfl⟩ := trodAll_nil r2
  obtain rfl : args = #[v0, v1, v2] := by cases args; simp_all
  obtain ⟨rfl, rfl⟩ := trodVars_none hV
  obtain ⟨text, pv, tog, brk, ps, e1, rfl, rfl, hpv, hps⟩ := open_source (hval 0 27 v0 rfl rfl) h0
  obtain ⟨c, most, rfl, hmost⟩ := open_room (hval 1 29 v1 rfl rfl) h1
  obtain ⟨n2, rfl, rfl, hn2⟩ := open_i64 (hval 2 3 v2 rfl rfl) h2
  clear hA0
  have hz : text.length ≤ reachBytes ∧ (e1.weights Tryd.prog 25).all (· ≤ reachBytes) = true := by
    rw [Tryd.params13] at hZ
    simp only [List.cons_append, List.nil_append, DataW.weightsEach, DataW.weights, Tryd.underlying27, List.all_append, List.all_cons, List.all_nil, Bool.and_eq_true, decide_eq_true_eq, List.map_cons, List.map_nil] at hZ
    first | exact ⟨hZ.1, hZ.2.1.1⟩ | exact ⟨hZ.1, hZ.2.1⟩
  obtain ⟨hzt, hzp⟩ := hz
  have er : reachBytes = 140737488351232 := rfl
  rw [er] at hzt
  have hpl : ps.length ≤ 4611686018427387904 := by
    rcases hps with rfl | ⟨es, sp, rfl, he⟩
    · simp
    · simp only [DataW.weights, Tryd.underlying25, List.all_cons, Bool.and_eq_true, decide_eq_true_eq] at hzp
      have h1 := hzp.1
      rw [er, show Tryd.prog.bytesOf 3 = 8 by kernel_rfl] at h1
      omega
  have walk := (fnBlocksTooLong_ct hE ps text pv tog brk c most n2 hpv (by omega) hpl hmost hn2.2).out W (Below.refl _ _) ⟨fun _ _ h => (by cases h), List.nodup_nil⟩ (fun _ _ h => (by cases h))
  refine walk.mono fun e W' ⟨v, H', he, hv, hst⟩ => ?_
  subst he hv
  exact ⟨_, rfl, law_post (tb := 4) (by kernel_rfl) (by kernel_rfl) hst.low hW' rfl (by kernel_rfl) Tryd.underlying4 rfl⟩

theorem lifted (os : Os) (started : os.Started) (H : Type) (enc : TypeId × Value → H) (F : Stop.Interp) :
    ReturnsInHanded {} Tryd.checked os 13 .any ((OpenSpec.ofChange Rows.fnBlocksTooLongSpec).preRow enc Tryd.prog Tryd.f13 Rows.fnBlocksTooLongRow.domain false Rows.fnBlocksTooLongRow.laid) (((OpenSpec.ofChange Rows.fnBlocksTooLongSpec).at F).post enc Tryd.prog Tryd.f13 false true false false) := by
  obtain ⟨places, hx⟩ := reads os enc
  refine returnsInHanded_of_row (C := Tryd.checked) (s := OpenSpec.ofChange Rows.fnBlocksTooLongSpec) own' started (by kernel_rfl) Tryd.func13
    (witness_row_atRef (enc := enc) (C := Tryd.checked) false (laidWorld os) #[.agg #[.string ⟨#[]⟩, .slice none 0 0, .bool false, .bool false], .agg #[.int .i64 0, .int .i64 0], .int .i64 0] rfl (by kernel_rfl) (by kernel_rfl) (by kernel_rfl)
      (OpenSpec.preRow_of_cond 8 hx (by kernel_rfl) (fun k hk => by cases hk) (by kernel_rfl) (laid_met os _))) ?_
  intro W base args ds gs before hval hW _ hcond hZ hL _ _
  exact contract H enc W base args ds gs before hval hW hZ hL

theorem said : Rows.FnBlocksTooLongSaid :=
  OpenClaim.holds_of_cond 13 Tryd.f13 rfl rfl rfl rfl rfl rfl rfl ⟨rfl, rfl, rfl, rfl, rfl⟩ rfl rfl rfl rfl rfl (by kernel_rfl) Tryd.func13 (by kernel_rfl)
    (of_decide_eq_true (by kernel_rfl)) (by unfold Func.isWrapper; first | (rw [if_pos (by decide +kernel)]; kernel_rfl) | (rw [if_neg (by decide +kernel)]; exact ⟨rfl, rfl⟩))
    (fun os started H enc _ F => by rw [OpenClaim.pre_eq_preRow]; exact lifted os started H enc F)

theorem plain (f : FuncId) (fn : Func) (hf : Tryd.pinned.checked.prog.funcNamed "lib-heddleeye/laws.FnBlocksTooLong" = some f) (hfn : Tryd.pinned.checked.prog.funcs[f]? = some fn) :
    true = Tryd.pinned.checked.prog.looks [] ∧ ∀ (j : Nat) t, fn.params[j]? = some t → Tryd.pinned.checked.prog.wantsStandIn t = false := by
  obtain rfl : f = 13 := Option.some.inj ((show Tryd.prog.funcNamed "lib-heddleeye/laws.FnBlocksTooLong" = some 13 by kernel_rfl).symm.trans hf) |>.symm
  obtain rfl : fn = Tryd.f13 := (Option.some.inj (Tryd.func13.symm.trans hfn)).symm
  refine ⟨by kernel_rfl, fun j t ht => ?_⟩
  have hall : (Tryd.f13.params.toList.all fun t => !(Tryd.prog.wantsStandIn t)) = true := by kernel_rfl
  have := List.all_eq_true.1 hall t (Array.mem_toList_iff.2 (Array.mem_of_getElem? ht))
  exact Bool.not_eq_true' _ ▸ this

theorem card : Rows.FnBlocksTooLongCardSaid :=
  Claim7.holds_tied_plain_at .later [] _ _ _ _ said (fun _ h => by cases h) (by kernel_rfl) (fun _ h => by cases h) fnBlocksTooLong_row_tie rfl ⟨rfl, rfl⟩ (by kernel_rfl) rfl plain (by kernel_rfl)
end Go.Proofs.YtjalppojdomcoaaDoor.fnBlocksTooLong
