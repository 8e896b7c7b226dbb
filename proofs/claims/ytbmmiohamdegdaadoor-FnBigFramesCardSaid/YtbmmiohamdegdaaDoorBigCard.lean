/- Frames of n bytes are told if they have room with their lengths of three bytes; if they are greater than the limit the first one is too long. Conditions: none beyond the row's own. -/
import Derived.Test.YtbmmiohamdegdaaDoorFnBig
import Derived.Test.YtbmmiohamdegdaaDoorOpen
import Derived.Test.YtbmmiohamdegdaaDoorErrs
import Derived.Test.YtbmmiohamdegdaaDoorClose

set_option maxRecDepth 100000
namespace Go.Proofs.YtbmmiohamdegdaaDoor.fnBigFrames
open Go Go.ChangeShapes Go.WideShapes Go.ChangeAt Go.RowKit Go.Lib Go.Proofs Go.Proofs.YtbmmiohamdegdaaDoor Go.HE
open Go.ChangeMaps (open_string shut_string)

theorem laid_met (os : Os) (args : Array Value) : laidMet Tryd.prog Rows.fnBigFramesRow.laid ((laidWorld os).forCall (fun _ _ => 0) ⟨#[], args, []⟩).memory :=
  laidMet_of_run' 8 (by kernel_rfl) (by kernel_rfl)
theorem reads (os : Os) {H : Type} (enc : TypeId × Value → H) : ∃ places, DataW.whole enc Tryd.prog ((laidWorld os).forCall (fun _ _ => 0) ⟨#[], #[.int .i64 0, .int .i64 0, .agg #[.int .i64 0, .int .i64 0]], []⟩).memory Tryd.f9.params.toList Rows.fnBigFramesSpec.vars false (#[(.int .i64 0 : Value), (.int .i64 0 : Value), (.agg #[.int .i64 0, .int .i64 0] : Value)] : Array Value).toList 8 = some ([.lit (.int .i64 0), .lit (.int .i64 0), .agg [.lit (.int .i64 0), .lit (.int .i64 0)]], [], places) :=
  ⟨[], by kernel_rfl⟩

theorem contract (H : Type) (enc : TypeId × Value → H) (W : World) (base : Nat) (args : Array Value) (ds gs : List (DataW H)) (before : List MemPlace)
    (hval : ∀ (j : Nat) t v, Tryd.f9.params[j]? = some t → args[j]? = some v → Value.okWide Tryd.prog W .any base t v)
    (hW : DataW.Whole enc Tryd.prog Tryd.f9.params.toList Rows.fnBigFramesSpec.vars false W args.toList ds gs before) (hL : laidMetH Tryd.prog Rows.fnBigFramesRow.laid W) :
    Calls Tryd.prog 9 args W fun e W' => ∃ v, e = .returned v ∧ Rows.fnBigFramesSpec.post enc Tryd.prog Tryd.f9 false true false false W args v W' := by
  obtain ⟨E, hE⟩ := errs_of (W := W) hL
  have hW' := hW
  obtain ⟨p, q, hA0, hV, rfl, hfz, hnd⟩ := hW
  have hA : DataW.TrodAll enc Tryd.prog W 0 (fun _ => true) true Tryd.f9.params.toList args.toList ds p := hA0
  rw [Tryd.params9] at hA hval
  obtain ⟨v0, vs0, d0, ds0, p0, q0, hargs, rfl, rfl, h0, r0⟩ := trodAll_cons hA
  obtain ⟨v1, vs1, d1, ds1, p1, q1, rfl, rfl, rfl, h1, r1⟩ := trodAll_cons r0
  obtain ⟨v2, vs2, d2, ds2, p2, q2, rfl, rfl, rfl, h2, r2⟩ := trodAll_cons r1
  obtain ⟨rfl, rfl, rfl⟩ := trodAll_nil r2
  obtain rfl : args = #[v0, v1, v2] := by cases args; simp_all
  obtain ⟨rfl, rfl⟩ := trodVars_none hV
  obtain ⟨n0, rfl, rfl, hn0⟩ := open_i64 (hval 0 3 v0 rfl rfl) h0
  obtain ⟨n1, rfl, rfl, hn1⟩ := open_i64 (hval 1 3 v1 rfl rfl) h1
  obtain ⟨c, most, rfl, hmost⟩ := open_room (hval 2 26 v2 rfl rfl) h2
  clear hA0
  have walk := (fnBigFrames_ct hE n0 n1 c most hmost).out W (Below.refl _ _) ⟨fun _ _ h => (by cases h), List.nodup_nil⟩ (fun _ _ h => (by cases h))
  refine walk.mono fun e W' ⟨v, H', he, hv, hst⟩ => ?_
  subst he hv
  exact ⟨_, rfl, law_post (tb := 4) (by kernel_rfl) (by kernel_rfl) hst.low hW' rfl (by kernel_rfl) Tryd.underlying4 rfl⟩

theorem lifted (os : Os) (started : os.Started) (H : Type) (enc : TypeId × Value → H) (F : Stop.Interp) :
    ReturnsInHanded {} Tryd.checked os 9 .any ((OpenSpec.ofChange Rows.fnBigFramesSpec).preRow enc Tryd.prog Tryd.f9 Rows.fnBigFramesRow.domain false Rows.fnBigFramesRow.laid) (((OpenSpec.ofChange Rows.fnBigFramesSpec).at F).post enc Tryd.prog Tryd.f9 false true false false) := by
  obtain ⟨places, hx⟩ := reads os enc
  refine returnsInHanded_of_row (C := Tryd.checked) (s := OpenSpec.ofChange Rows.fnBigFramesSpec) own' started (by kernel_rfl) Tryd.func9
    (witness_row_atRef (enc := enc) (C := Tryd.checked) false (laidWorld os) #[.int .i64 0, .int .i64 0, .agg #[.int .i64 0, .int .i64 0]] rfl (by kernel_rfl) (by kernel_rfl) (by kernel_rfl)
      (OpenSpec.preRow_of_cond 8 hx (by kernel_rfl) (fun k hk => by cases hk) (by kernel_rfl) (laid_met os _))) ?_
  intro W base args ds gs before hval hW _ hcond _ hL _ _
  exact contract H enc W base args ds gs before hval hW hL

theorem said : Rows.FnBigFramesSaid :=
  OpenClaim.holds_of_cond 9 Tryd.f9 rfl rfl rfl rfl rfl rfl rfl ⟨rfl, rfl, rfl, rfl, rfl⟩ rfl rfl rfl rfl rfl (by kernel_rfl) Tryd.func9 (by kernel_rfl)
    (of_decide_eq_true (by kernel_rfl)) (by unfold Func.isWrapper; first | (rw [if_pos (by decide +kernel)]; kernel_rfl) | (rw [if_neg (by decide +kernel)]; exact ⟨rfl, rfl⟩))
    (fun os started H enc _ F => by rw [OpenClaim.pre_eq_preRow]; exact lifted os started H enc F)

theorem plain (f : FuncId) (fn : Func) (hf : Tryd.pinned.checked.prog.funcNamed "lib-heddleeye/laws.FnBigFrames" = some f) (hfn : Tryd.pinned.checked.prog.funcs[f]? = some fn) :
    true = Tryd.pinned.checked.prog.looks [] ∧ ∀ (j : Nat) t, fn.params[j]? = some t → Tryd.pinned.checked.prog.wantsStandIn t = false := by
  obtain rfl : f = 9 := Option.some.inj ((show Tryd.prog.funcNamed "lib-heddleeye/laws.FnBigFrames" = some 9 by kernel_rfl).symm.trans hf) |>.symm
  obtain rfl : fn = Tryd.f9 := (Option.some.inj (Tryd.func9.symm.trans hfn)).symm
  refine ⟨by kernel_rfl, fun j t ht => ?_⟩
  have hall : (Tryd.f9.params.toList.all fun t => !(Tryd.prog.wantsStandIn t)) = true := by kernel_rfl
  have := List.all_eq_true.1 hall t (Array.mem_toList_iff.2 (Array.mem_of_getElem? ht))
  exact Bool.not_eq_true' _ ▸ this

theorem card : Rows.FnBigFramesCardSaid :=
  Claim7.holds_tied_plain_at .later [] _ _ _ _ said (fun _ h => by cases h) (by kernel_rfl) (fun _ h => by cases h) fnBigFrames_row_tie rfl ⟨rfl, rfl⟩ (by kernel_rfl) rfl plain (by kernel_rfl)
end Go.Proofs.YtbmmiohamdegdaaDoor.fnBigFrames
