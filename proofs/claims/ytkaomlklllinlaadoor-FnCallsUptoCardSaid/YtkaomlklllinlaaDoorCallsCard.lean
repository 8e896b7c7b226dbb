/- Scan returns true for each token, of which Text and Bytes return the bytes until the next call of Scan, and then false; before this Err returns nil, and behind it always the first error; where no split function has failed, Scan returns false ever after (for texts that are less than the limit, and readers that do not fail). Condition: what the law reads is of bulk at most 1048576. -/
import Derived.Test.YtkaomlklllinlaaDoorFnCalls
import Derived.Test.YtkaomlklllinlaaDoorOpen
import Derived.Test.YtkaomlklllinlaaDoorErrsU
import Derived.Test.YtkaomlklllinlaaDoorClose
import Derived.Test.YtkaomlklllinlaaDoorOpenL

set_option maxRecDepth 100000
namespace Go.Proofs.YtkaomlklllinlaaDoor.fnCalls
open Go Go.ChangeShapes Go.WideShapes Go.ChangeAt Go.RowKit Go.Lib Go.Proofs Go.Proofs.YtkaomlklllinlaaDoor Go.HE
open Go.ChangeMaps (open_string shut_string)

theorem laid_met (os : Os) (args : Array Value) : laidMet Tryd.prog Rows.fnCallsUptoRow.laid ((laidWorldU os).forCall (fun _ _ => 0) ⟨#[], args, []⟩).memory :=
  metU os args
theorem reads (os : Os) {H : Type} (enc : TypeId × Value → H) : ∃ places, DataW.whole enc Tryd.prog ((laidWorldU os).forCall (fun _ _ => 0) ⟨#[], #[.agg #[.string ⟨#[]⟩, .slice none 0 0, .bool false, .bool false], .agg #[.int .i64 0, .int .i64 0], .agg #[.int .i64 0, .int .i64 0, .string ⟨#[]⟩, .int .u8 0, .int .u8 0], .slice none 0 0, .slice none 0 0], []⟩).memory Tryd.f4.params.toList Rows.fnCallsSpec.vars false (#[(.agg #[.string ⟨#[]⟩, .slice none 0 0, .bool false, .bool false] : Value), (.agg #[.int .i64 0, .int .i64 0] : Value), (.agg #[.int .i64 0, .int .i64 0, .string ⟨#[]⟩, .int .u8 0, .int .u8 0] : Value), (.slice none 0 0 : Value), (.slice none 0 0 : Value)] : Array Value).toList 8 = some ([.agg [.lit (.string []), .nil, .lit (.bool false), .lit (.bool false)], .agg [.lit (.int .i64 0), .lit (.int .i64 0)], .agg [.lit (.int .i64 0), .lit (.int .i64 0), .lit (.string []), .lit (.int .u8 0), .lit (.int .u8 0)], .nil, .nil], [], places) :=
  ⟨[], by kernel_rfl⟩

theorem contract (H : Type) (enc : TypeId × Value → H) (W : World) (base : Nat) (args : Array Value) (ds gs : List (DataW H)) (before : List MemPlace)
    (hval : ∀ (j : Nat) t v, Tryd.f4.params[j]? = some t → args[j]? = some v → Value.okWide Tryd.prog W .any base t v)
    (hW : DataW.Whole enc Tryd.prog Tryd.f4.params.toList Rows.fnCallsSpec.vars false W args.toList ds gs before) (hL : laidMetH Tryd.prog Rows.fnCallsUptoRow.laid W) (hB : Rows.uptoBulkAll (ds ++ gs) ≤ 1048576) :
    Calls Tryd.prog 4 args W fun e W' => ∃ v, e = .returned v ∧ Rows.fnCallsSpec.post enc Tryd.prog Tryd.f4 false true false false W args v W' := by
  obtain ⟨E, hE, hT⟩ := errsU_of (W := W) (laid_sameU ▸ hL)
  have hW' := hW
  obtain ⟨p, q, hA0, hV, rfl, hfz, hnd⟩ := hW
  have hA : DataW.TrodAll enc Tryd.prog W 0 (fun _ => true) true Tryd.f4.params.toList args.toList ds p := hA0
  rw [Tryd.params4] at hA hval
  obtain ⟨v0, vs0, d0, ds0, p0, q0, hargs, rfl, rfl, h0, r0⟩ := trodAll_cons hA
  obtain ⟨v1, vs1, d1, ds1, p1, q1, rfl, rfl, rfl, h1, r1⟩ := trodAll_cons r0
  obtain ⟨v2, vs2, d2, ds2, p2, q2, rfl, rfl, rfl, h2, r2⟩ := trodAll_cons r1
  obtain ⟨v3, vs3, d3, ds3, p3, q3, rfl, rfl, rfl, h3, r3⟩ := trodAll_cons r2
  obtain ⟨v4, vs4, d4, ds4, p4, q4, rfl, rfl, rfl, h4, r4⟩ := trodAll_cons r3
  obtain ⟨rfl, rfl, rfl⟩ := trodAll_nil r4
  obtain rfl : args = #[v0, v1, v2, v3, v4] := by cases args; simp_all
  obtain ⟨rfl, rfl⟩ := trodVars_none hV
  obtain ⟨text, pv, tog, brk, ps, e1, rfl, rfl, hpv, hps⟩ := open_source (hval 0 24 v0 rfl rfl) h0
  obtain ⟨c, most, rfl, hmost⟩ := open_room (hval 1 26 v1 rfl rfl) h1
  obtain ⟨b, bd0, bd1, bd3, bd4, rfl, rfl, hbn⟩ := open_base (hval 2 28 v2 rfl rfl) h2
  obtain ⟨ls, hls, hlln, hld⟩ := open_layers (hval 3 35 v3 rfl rfl) h3
  obtain ⟨ps2, hpv2, hps2⟩ := open_pieces (hval 4 22 v4 rfl rfl) h4
  clear hA0
  simp only [List.cons_append, List.nil_append, Rows.uptoBulkAll, Rows.uptoBulk] at hB
  have hpl : ps.length ≤ 4611686018427387904 := by
    rcases hps with rfl | ⟨es, sp, rfl, he⟩
    · simp
    · have := bulk_len es
      simp only [Rows.uptoBulk] at hB
      omega
  have hllen : ls.length ≤ 1099511627776 := by
    rcases hld with rfl | ⟨es, sp, rfl, he⟩
    · simp
    · have := bulk_len es
      simp only [Rows.uptoBulk] at hB
      omega
  have hsl : ps2.length ≤ 1099511627776 := by
    rcases hps2 with rfl | ⟨es, sp, rfl, he⟩
    · simp
    · have := bulk_len es
      simp only [Rows.uptoBulk] at hB
      omega
  have walk := (fnCalls_ct hE hT ps text pv tog brk c most b v3 ls hls hllen (fun l hl => (hlln l hl).2) (by omega) hpv (by omega) hpl hmost v4 ps2 hpv2 hsl).out W (Below.refl _ _) ⟨fun _ _ h => (by cases h), List.nodup_nil⟩ (fun _ _ h => (by cases h))
  refine walk.mono fun e W' ⟨v, H', he, hv, hst⟩ => ?_
  subst he hv
  exact ⟨_, rfl, law_post (tb := 4) (by kernel_rfl) (by kernel_rfl) hst.low hW' rfl (by kernel_rfl) Tryd.underlying4 rfl⟩

theorem lifted (os : Os) (started : os.Started) (H : Type) (enc : TypeId × Value → H) (F : Stop.Interp) :
    ReturnsInHanded {} Tryd.checked os 4 .any ((Rows.OpenSpec.upto Rows.fnCallsSpec).preRow enc Tryd.prog Tryd.f4 Rows.fnCallsUptoRow.domain false Rows.fnCallsUptoRow.laid) (((Rows.OpenSpec.upto Rows.fnCallsSpec).at F).post enc Tryd.prog Tryd.f4 false true false false) := by
  obtain ⟨places, hx⟩ := reads os enc
  refine returnsInHanded_of_row (C := Tryd.checked) (s := Rows.OpenSpec.upto Rows.fnCallsSpec) own' started (by kernel_rfl) Tryd.func4
    (witness_row_atRef (enc := enc) (C := Tryd.checked) false (laidWorldU os) #[.agg #[.string ⟨#[]⟩, .slice none 0 0, .bool false, .bool false], .agg #[.int .i64 0, .int .i64 0], .agg #[.int .i64 0, .int .i64 0, .string ⟨#[]⟩, .int .u8 0, .int .u8 0], .slice none 0 0, .slice none 0 0] rfl (by kernel_rfl) (by kernel_rfl) (by kernel_rfl)
      (OpenSpec.preRow_of_cond 8 hx (by kernel_rfl) (fun k hk => by cases hk; kernel_rfl) (by kernel_rfl) (laid_met os _))) ?_
  intro W base args ds gs before hval hW _ hcond _ hL _ _
  exact contract H enc W base args ds gs before hval hW hL (by have := hcond _ rfl; simpa [Rows.uptoSmall] using this)

theorem said : Rows.FnCallsUptoSaid :=
  OpenClaim.holds_of_cond 4 Tryd.f4 rfl rfl rfl rfl rfl rfl rfl ⟨rfl, rfl, rfl, rfl, rfl⟩ rfl rfl rfl rfl rfl (by kernel_rfl) Tryd.func4 (by kernel_rfl)
    (of_decide_eq_true (by kernel_rfl)) (by unfold Func.isWrapper; first | (rw [if_pos (by decide +kernel)]; kernel_rfl) | (rw [if_neg (by decide +kernel)]; exact ⟨rfl, rfl⟩))
    (fun os started H enc _ F => by rw [OpenClaim.pre_eq_preRow]; exact lifted os started H enc F)

theorem plain (f : FuncId) (fn : Func) (hf : Tryd.pinned.checked.prog.funcNamed "lib-heddleeye/laws.FnCalls" = some f) (hfn : Tryd.pinned.checked.prog.funcs[f]? = some fn) :
    true = Tryd.pinned.checked.prog.looks [] ∧ ∀ (j : Nat) t, fn.params[j]? = some t → Tryd.pinned.checked.prog.wantsStandIn t = false := by
  obtain rfl : f = 4 := Option.some.inj ((show Tryd.prog.funcNamed "lib-heddleeye/laws.FnCalls" = some 4 by kernel_rfl).symm.trans hf) |>.symm
  obtain rfl : fn = Tryd.f4 := (Option.some.inj (Tryd.func4.symm.trans hfn)).symm
  refine ⟨by kernel_rfl, fun j t ht => ?_⟩
  have hall : (Tryd.f4.params.toList.all fun t => !(Tryd.prog.wantsStandIn t)) = true := by kernel_rfl
  have := List.all_eq_true.1 hall t (Array.mem_toList_iff.2 (Array.mem_of_getElem? ht))
  exact Bool.not_eq_true' _ ▸ this

theorem card : Rows.FnCallsUptoCardSaid :=
  Claim7.holds_tied_plain_at .later [] _ _ _ _ said (fun _ h => by cases h) (by kernel_rfl) (fun _ h => by cases h) fnCallsUpto_row_tie rfl ⟨rfl, rfl⟩ (by kernel_rfl) rfl plain (by kernel_rfl)
end Go.Proofs.YtkaomlklllinlaaDoor.fnCalls
