/- Fields that have been written with escapes, and joined by delimiters, are told again. Condition: what the law reads is of bulk at most 1048576. -/
import Derived.Test.YtmiioacpejmndaaDoorFnFieldsA
import Derived.Test.YtmiioacpejmndaaDoorOpen
import Derived.Test.YtmiioacpejmndaaDoorErrs
import Derived.Test.YtmiioacpejmndaaDoorClose
import Derived.Test.YtmiioacpejmndaaDoorOpenS
set_option maxRecDepth 100000
namespace Go.Proofs.YtmiioacpejmndaaDoor.fnFieldsAgain
open Go Go.ChangeShapes Go.WideShapes Go.ChangeAt Go.RowKit Go.Lib Go.Proofs Go.Proofs.YtmiioacpejmndaaDoor Go.HE
open Go.ChangeMaps (open_string shut_string)

theorem laid_met (os : Os) (args : Array Value) : laidMet Tryd.prog Rows.fnFieldsAgainUptoRow.laid ((laidWorld os).forCall (fun _ _ => 0) ⟨#[], args, []⟩).memory :=
  laidMet_of_run' 8 (by kernel_rfl) (by kernel_rfl)
theorem reads (os : Os) {H : Type} (enc : TypeId × Value → H) : ∃ places, DataW.whole enc Tryd.prog ((laidWorld os).forCall (fun _ _ => 0) ⟨#[], #[.slice none 0 0, .int .u8 0, .int .u8 0, .slice none 0 0, .agg #[.int .i64 0, .int .i64 0]], []⟩).memory Tryd.f9.params.toList Rows.fnFieldsAgainSpec.vars false (#[(.slice none 0 0 : Value), (.int .u8 0 : Value), (.int .u8 0 : Value), (.slice none 0 0 : Value), (.agg #[.int .i64 0, .int .i64 0] : Value)] : Array Value).toList 8 = some ([.nil, .lit (.int .u8 0), .lit (.int .u8 0), .nil, .agg [.lit (.int .i64 0), .lit (.int .i64 0)]], [], places) :=
  ⟨[], by kernel_rfl⟩

theorem contract (H : Type) (enc : TypeId × Value → H) (W : World) (base : Nat) (args : Array Value) (ds gs : List (DataW H)) (before : List MemPlace)
    (hval : ∀ (j : Nat) t v, Tryd.f9.params[j]? = some t → args[j]? = some v → Value.okWide Tryd.prog W .any base t v)
    (hW : DataW.Whole enc Tryd.prog Tryd.f9.params.toList Rows.fnFieldsAgainSpec.vars false W args.toList ds gs before) (hL : laidMetH Tryd.prog Rows.fnFieldsAgainUptoRow.laid W) (hB : Rows.uptoBulkAll (ds ++ gs) ≤ 1048576) :
    Calls Tryd.prog 9 args W fun e W' => ∃ v, e = .returned v ∧ Rows.fnFieldsAgainSpec.post enc Tryd.prog Tryd.f9 false true false false W args v W' := by
  obtain ⟨E, hE⟩ := errs_of (W := W) hL
  have hW' := hW
  obtain ⟨p, q, hA0, hV, rfl, hfz, hnd⟩ := hW
  have hA : DataW.TrodAll enc Tryd.prog W 0 (fun _ => true) true Tryd.f9.params.toList args.toList ds p := hA0
  rw [Tryd.params9] at hA hval
  obtain ⟨v0, vs0, d0, ds0, p0, q0, hargs, rfl, rfl, h0, r0⟩ := trodAll_cons hA
  obtain ⟨v1, vs1, d1, ds1, p1, q1, rfl, rfl, rfl, h1, r1⟩ := trodAll_cons r0
  obtain ⟨v2, vs2, d2, ds2, p2, q2, rfl, rfl, rfl, h2, r2⟩ := trodAll_cons r1
  obtain ⟨v3, vs3, d3, ds3, p3, q3, rfl, rfl, rfl, h3, r3⟩ := trodAll_cons r2
  obtain ⟨v4, vs4, d4, ds4, p4, q4, rfl, rfl, rfl, h4, r4⟩ := trodAll_cons r3
  obtain ⟨rfl, rfl, rfl⟩ := trodAll_nil r4
  obtain rfl : args = #[v0, v1, v2, v3, v4] := by cases args; simp_all
  obtain ⟨rfl, rfl⟩ := trodVars_none hV
  obtain ⟨ts0, hlv0, hls0⟩ := open_strs (hval 0 28 v0 rfl rfl) h0
  obtain ⟨n1, rfl, rfl, hn1⟩ := open_u8 (hval 1 5 v1 rfl rfl) h1
  obtain ⟨n2, rfl, rfl, hn2⟩ := open_u8 (hval 2 5 v2 rfl rfl) h2
  obtain ⟨ps, hpv, hps⟩ := open_pieces (hval 3 22 v3 rfl rfl) h3
  obtain ⟨c, most, rfl, hmost⟩ := open_room (hval 4 26 v4 rfl rfl) h4
  clear hA0
  simp only [List.cons_append, List.nil_append, Rows.uptoBulkAll, Rows.uptoBulk] at hB
  have hpl : ps.length ≤ 4611686018427387904 := by
    rcases hps with rfl | ⟨es, sp, rfl, he⟩
    · simp
    · have := bulk_len es
      simp only [Rows.uptoBulk] at hB
      omega
  have hq : ts0.flatten.length + ts0.length ≤ 1048576 := by
    rcases hls0 with ⟨rfl, rfl⟩ | ⟨sp, rfl⟩
    · simp
    · have h1 := bulk_strs (H := H) ts0
      simp only [Rows.uptoBulk] at hB
      omega
  obtain ⟨d8, e8⟩ : ∃ c8 : UInt8, ((c8.toNat : Nat) : Int) = n1 := ⟨UInt8.ofNat n1.toNat, by rw [UInt8.toNat_ofNat']; omega⟩
  obtain ⟨f8, e9⟩ : ∃ c8 : UInt8, ((c8.toNat : Nat) : Int) = n2 := ⟨UInt8.ofNat n2.toNat, by rw [UInt8.toNat_ofNat']; omega⟩
  subst e8 e9
  have walk := (fnFieldsAgain_ct hE ps ts0 v0 v3 c most d8 f8 hlv0 hpv (by omega) (by omega) hpl hmost).out W (Below.refl _ _) ⟨fun _ _ h => (by cases h), List.nodup_nil⟩ (fun _ _ h => (by cases h))
  refine walk.mono fun e W' ⟨v, H', he, hv, hst⟩ => ?_
  subst he hv
  exact ⟨_, rfl, law_post (tb := 4) (by kernel_rfl) (by kernel_rfl) hst.low hW' rfl (by kernel_rfl) Tryd.underlying4 rfl⟩

theorem lifted (os : Os) (started : os.Started) (H : Type) (enc : TypeId × Value → H) (F : Stop.Interp) :
    ReturnsInHanded {} Tryd.checked os 9 .any ((Rows.OpenSpec.upto Rows.fnFieldsAgainSpec).preRow enc Tryd.prog Tryd.f9 Rows.fnFieldsAgainUptoRow.domain false Rows.fnFieldsAgainUptoRow.laid) (((Rows.OpenSpec.upto Rows.fnFieldsAgainSpec).at F).post enc Tryd.prog Tryd.f9 false true false false) := by
  obtain ⟨places, hx⟩ := reads os enc
  refine returnsInHanded_of_row (C := Tryd.checked) (s := Rows.OpenSpec.upto Rows.fnFieldsAgainSpec) own' started (by kernel_rfl) Tryd.func9
    (witness_row_atRef (enc := enc) (C := Tryd.checked) false (laidWorld os) #[.slice none 0 0, .int .u8 0, .int .u8 0, .slice none 0 0, .agg #[.int .i64 0, .int .i64 0]] rfl (by kernel_rfl) (by kernel_rfl) (by kernel_rfl)
      (OpenSpec.preRow_of_cond 8 hx (by kernel_rfl) (fun k hk => by cases hk; kernel_rfl) (by kernel_rfl) (laid_met os _))) ?_
  intro W base args ds gs before hval hW _ hcond _ hL _ _
  exact contract H enc W base args ds gs before hval hW hL (by have := hcond _ rfl; simpa [Rows.uptoSmall] using this)

theorem said : Rows.FnFieldsAgainUptoSaid :=
  OpenClaim.holds_of_cond 9 Tryd.f9 rfl rfl rfl rfl rfl rfl rfl ⟨rfl, rfl, rfl, rfl, rfl⟩ rfl rfl rfl rfl rfl (by kernel_rfl) Tryd.func9 (by kernel_rfl)
    (of_decide_eq_true (by kernel_rfl)) (by unfold Func.isWrapper; first | (rw [if_pos (by decide +kernel)]; kernel_rfl) | (rw [if_neg (by decide +kernel)]; exact ⟨rfl, rfl⟩))
    (fun os started H enc _ F => by rw [OpenClaim.pre_eq_preRow]; exact lifted os started H enc F)

theorem plain (f : FuncId) (fn : Func) (hf : Tryd.pinned.checked.prog.funcNamed "lib-heddleeye/laws.FnFieldsAgain" = some f) (hfn : Tryd.pinned.checked.prog.funcs[f]? = some fn) :
    true = Tryd.pinned.checked.prog.looks [] ∧ ∀ (j : Nat) t, fn.params[j]? = some t → Tryd.pinned.checked.prog.wantsStandIn t = false := by
  obtain rfl : f = 9 := Option.some.inj ((show Tryd.prog.funcNamed "lib-heddleeye/laws.FnFieldsAgain" = some 9 by kernel_rfl).symm.trans hf) |>.symm
  obtain rfl : fn = Tryd.f9 := (Option.some.inj (Tryd.func9.symm.trans hfn)).symm
  refine ⟨by kernel_rfl, fun j t ht => ?_⟩
  have hall : (Tryd.f9.params.toList.all fun t => !(Tryd.prog.wantsStandIn t)) = true := by kernel_rfl
  have := List.all_eq_true.1 hall t (Array.mem_toList_iff.2 (Array.mem_of_getElem? ht))
  exact Bool.not_eq_true' _ ▸ this

theorem card : Rows.FnFieldsAgainUptoCardSaid :=
  Claim7.holds_tied_plain_at .later [] _ _ _ _ said (fun _ h => by cases h) (by kernel_rfl) (fun _ h => by cases h) fnFieldsAgainUpto_row_tie rfl ⟨rfl, rfl⟩ (by kernel_rfl) rfl plain (by kernel_rfl)
end Go.Proofs.YtmiioacpejmndaaDoor.fnFieldsAgain
