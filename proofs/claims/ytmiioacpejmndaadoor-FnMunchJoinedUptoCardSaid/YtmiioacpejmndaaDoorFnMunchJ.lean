/- The tokens of an automaton make the beginning of the text, and all of it exactly if there is no error: the walk. Conditions: those of the contracts. -/
import Derived.Test.YtmiioacpejmndaaDoorMunchS
import Derived.Test.YtmiioacpejmndaaDoorFork
import Derived.Test.YtmiioacpejmndaaDoorJoin
import Derived.Test.YtmiioacpejmndaaDoorParts
set_option maxRecDepth 100000
set_option maxHeartbeats 4000000
namespace Go.HE
open Go.RowKit Go.Proofs
theorem ev_eqb {P : Program} {C : Cx} {H : Heap} {l : Env} {ty t yt : TypeId} {x y : Operand} {a b : Bool} (ht : P.underlying t = some .bool) (hx : ev l x = some (.bool a)) (hy : ev l y = some (.bool b)) : Ev P C H l (.binOp .eql t x y yt) ty (.bool (a == b)) :=
  ev_bin hx hy (fun _ _ => by simp [eqGuard]) (fun w _ => by
    show (do pure (Value.bool (← Op.equalIn (9999 + 1) t (.bool a) (.bool b))) : Sem Value).run P w = _
    unfold Op.equalIn
    simp only [Sem.run_bind, run_underlying_eq ht, Result.andThen_ok]
    rfl)
section
variable {W : World} {E : Nat → Addr} {nv fv : Value} {M : Au}
theorem fnMunchJoined_ct (hE : Errs W E) (hM : Mach W nv fv M) (ps : List Int) (text : List UInt8) (pv : Value) (tog brk : Bool) (c most : Int) (hpv : Pcs W pv ps) (htl : text.length ≤ 1099511627776) (hpl : ps.length ≤ 4611686018427387904) (hmost : most ≤ 9223372036854775807) :
    Ct Tryd.prog W 12 #[.agg #[str text, pv, .bool tog, .bool brk], .agg #[.int .i64 c, .int .i64 most], .agg #[.int .i64 M.classes, nv, fv]] [] (fun v _ => v = .bool true) := by
  obtain ⟨ts, e, hmu⟩ := munch_ex M _ text rfl
  have htn := hmu.len
  refine ct_of_cw (vs := [_, _, _]) Tryd.func12 rfl rfl fun w1 => ?_
  refine cw_seq ?_; refine cw_region ?_
  refine ol_box rfl rfl fun b3 => ?_
  refine ol_box rfl rfl fun b4 => ?_
  refine ol_box rfl rfl fun b5 => ?_
  refine ol_ev (ev_assign rfl) rfl ?_; refine ol_nil ?_; refine cw_seq ?_; refine cw_seq ?_
  refine cw_float [(0, false), (1, false), (2, false), (3, false), (4, false), (5, true), (6, false), (7, false), (8, false), (9, false), (10, false)] [(b5, ⟨[.int .i64 M.classes, nv, fv], 51, (0, 0)⟩), (b4, ⟨[.int .i64 c, .int .i64 most], 26, (0, 0)⟩), (b3, ⟨[str text, pv, .bool tog, .bool brk], 24, (0, 0)⟩)] mixed (by kernel_rfl) (List.Sublist.refl _) (fun _ _ _ h => h) (fun _ _ h => h) ?_
  refine fl_ev rfl (ev_fld rfl) rfl ?_; refine fl_ev rfl (ev_load rfl m2 rfl) rfl ?_; refine fl_ev rfl (ev_len_str rfl) rfl ?_; (refine fl_ev rfl (ev_add rfl rfl ?_) rfl ?_; (constructor <;> omega))
  refine fl_ev rfl (ev_loadS (cs := [.int .i64 c, .int .i64 most]) rfl rfl m1 rfl) rfl ?_
  refine fl_x rfl ?_
  refine ol_call1 (G := []) (cap := []) rfl rfl rfl (limit_ct c most) (List.Perm.refl _) ?_
  rintro v G' rfl
  refine OL.drop ?_
  refine ol_nil ⟨sub_refl, ?_⟩
  refine fl_ev rfl (ev_ge rfl rfl) rfl ?_; refine fl_ev rfl (ev_move rfl) rfl ?_
  by_cases hlim : limitOf c most ≤ ((text.length : Nat) : Int) + 1
  · rw [decide_eq_true hlim]
    refine fl_off rfl rfl rfl rfl rfl rfl ?_; refine fl_off rfl rfl rfl rfl rfl rfl ?_; refine fl_ev rfl (ev_pick_t rfl rfl) rfl ?_
    refine fl_nil ?_
    refine cw_if_t rfl ?_; refine cw_seq ?_; refine cw_region ?_; refine ol_ev (ev_assign rfl) rfl ?_; refine ol_nil ?_; refine cw_ret ?_
    exact ⟨_, res1 rfl rfl, rfl⟩
  rw [decide_eq_false hlim]
  cases brk with
  | true =>
    refine fl_ev_on rfl rfl rfl (ev_fld rfl) rfl rfl ?_; refine fl_ev_on rfl rfl rfl (ev_load rfl m2 rfl) rfl rfl ?_; refine fl_ev rfl (ev_pick_f rfl rfl) rfl ?_
    refine fl_nil ?_
    refine cw_if_t rfl ?_; refine cw_seq ?_; refine cw_region ?_; refine ol_ev (ev_assign rfl) rfl ?_; refine ol_nil ?_; refine cw_ret ?_
    exact ⟨_, res1 rfl rfl, rfl⟩
  | false =>
    refine fl_ev_on rfl rfl rfl (ev_fld rfl) rfl rfl ?_; refine fl_ev_on rfl rfl rfl (ev_load rfl m2 rfl) rfl rfl ?_; refine fl_ev rfl (ev_pick_f rfl rfl) rfl ?_
    refine fl_nil ?_
    refine cw_if_f rfl ?_; refine cw_skip ?_; refine cw_seq ?_; refine cw_region ?_
    refine ol_ev (ev_loadS (cs := [str text, pv, .bool tog, .bool false]) rfl rfl m2 rfl) rfl ?_
    refine ol_ev (ev_loadS (cs := [.int .i64 c, .int .i64 most]) rfl rfl m1 rfl) rfl ?_
    refine ol_ev (ev_loadS (cs := [.int .i64 M.classes, nv, fv]) rfl rfl m0 rfl) rfl ?_
    refine ol_call3 (G := []) (cap := []) rfl rfl rfl rfl rfl (munch_ct hE hM ps text pv tog c most ts e hpv (by omega) hpl hmost (by omega) (mrun hmu (by omega)) (munch_ne0 hmu.err) (by omega)) (List.Perm.refl _) ?_
    rintro v G2 ⟨u2, rfl, ⟨bg, cg, sg, rfl, hg, hcg⟩⟩
    refine OL.keep hg ?_
    obtain ⟨rr, hflat, hiff⟩ := hmu.flat
    have hfl : ts.flatten.length + rr.length = text.length := by
      have := congrArg List.length hflat
      rw [List.length_append] at this
      exact this.symm
    have hjl := joinL_empty ts
    refine ol_ev (ev_move rfl) rfl ?_; refine ol_ev (ev_extract rfl rfl) rfl ?_; refine ol_ev (ev_extract rfl rfl) rfl ?_; refine ol_ev (ev_assign rfl) rfl ?_; refine ol_ev (ev_assign rfl) rfl ?_; refine ol_nil ?_; refine cw_seq ?_; refine cw_region ?_; refine ol_ev (ev_move rfl) rfl ?_
    refine ol_call2 (cap := []) (R := []) rfl rfl rfl rfl (joined_ct _ _ ts [] ⟨bg, cg, sg, rfl, m0, hcg⟩ (by omega) (by rw [hjl]; omega)) (List.Perm.of_eq (List.append_nil _).symm) ?_
    rintro v G4 ⟨rfl, rfl⟩
    rw [hjl]
    refine OL.nil_app ?_
    refine ol_ev (ev_assign rfl) rfl ?_; refine ol_nil ?_; refine cw_seq ?_; refine cw_region ?_; refine ol_ev (ev_fld rfl) rfl ?_; refine ol_ev (ev_load rfl m3 rfl) rfl ?_; refine ol_ev (ev_move rfl) rfl ?_
    refine ol_call3 (G := []) (cap := []) rfl rfl rfl rfl rfl (at_ct text ts.flatten 0 (Nat.zero_le _) htl (by omega)) (List.Perm.refl _) ?_
    rintro v G5 ⟨rfl, rfl⟩
    have hat : (text.drop 0).take ts.flatten.length = ts.flatten := by
      rw [List.drop_zero, hflat]
      simp
    rw [decide_eq_true hat]
    refine ol_ev (ev_move rfl) rfl ?_; refine ol_on rfl rfl rfl ?_; refine ol_ev (ev_move rfl) rfl ?_; refine ol_on rfl rfl rfl ?_; refine ol_ev (ev_eq rfl rfl) rfl ?_; refine ol_on rfl rfl rfl ?_; refine ol_ev (ev_move rfl) rfl ?_; refine ol_on rfl rfl rfl ?_; refine ol_ev (ev_len_str rfl) rfl ?_; refine ol_on rfl rfl rfl ?_; refine ol_ev (ev_fld rfl) rfl ?_; refine ol_on rfl rfl rfl ?_; refine ol_ev (ev_load rfl m3 rfl) rfl ?_; refine ol_on rfl rfl rfl ?_; refine ol_ev (ev_len_str rfl) rfl ?_; refine ol_on rfl rfl rfl ?_; refine ol_ev (ev_eq rfl rfl) rfl ?_; refine ol_on rfl rfl rfl ?_
    rcases hmu.err with rfl | rfl
    · have hr : rr = [] := hiff.1 rfl
      subst hr
      rw [decide_eq_true (show codeOf none = 0 from rfl)]
      skip
      rw [decide_eq_true (show ((ts.flatten.length : Nat) : Int) = ((text.length : Nat) : Int) by rw [List.length_nil] at hfl; omega)]
      skip
      refine ol_ev (ev_eqb Tryd.underlying4 rfl rfl) rfl ?_
      refine ol_ev (ev_pick_t rfl rfl) rfl ?_; refine ol_ev (ev_move rfl) rfl ?_; refine ol_on rfl rfl rfl ?_; refine ol_ev (ev_move rfl) rfl ?_; refine ol_on rfl rfl rfl ?_; refine ol_ev (ev_eq rfl rfl) rfl ?_; refine ol_on rfl rfl rfl ?_; refine ol_ev (ev_move rfl) rfl ?_; refine ol_off rfl rfl rfl rfl rfl ?_; refine ol_off rfl rfl rfl rfl rfl ?_; refine ol_on rfl rfl rfl ?_; refine ol_ev (ev_pick_t rfl rfl) rfl ?_; refine ol_ev (ev_pick_t rfl rfl) rfl ?_; refine ol_ev (ev_assign rfl) rfl ?_; refine ol_nil ?_; refine cw_ret ?_
      exact ⟨_, res1 rfl rfl, rfl⟩
    · have hr : rr ≠ [] := fun h => by cases hiff.2 h
      have hrl := List.length_pos_iff.2 hr
      rw [decide_eq_false (show ¬ codeOf (some 7) = 0 by decide)]
      skip
      rw [decide_eq_false (show ¬ ((ts.flatten.length : Nat) : Int) = ((text.length : Nat) : Int) by omega)]
      skip
      refine ol_ev (ev_eqb Tryd.underlying4 rfl rfl) rfl ?_
      refine ol_ev (ev_pick_t rfl rfl) rfl ?_; refine ol_ev (ev_move rfl) rfl ?_; refine ol_on rfl rfl rfl ?_; refine ol_ev (ev_move rfl) rfl ?_; refine ol_on rfl rfl rfl ?_; refine ol_ev (ev_eq rfl rfl) rfl ?_; refine ol_on rfl rfl rfl ?_; refine ol_ev (ev_move rfl) rfl ?_; refine ol_on rfl rfl rfl ?_; refine ol_ev (ev_move rfl) rfl ?_; refine ol_on rfl rfl rfl ?_; refine ol_ev (ev_eq rfl rfl) rfl ?_; refine ol_on rfl rfl rfl ?_; refine ol_ev (ev_pick_f rfl rfl) rfl ?_; refine ol_ev (ev_pick_t rfl rfl) rfl ?_; refine ol_ev (ev_assign rfl) rfl ?_; refine ol_nil ?_; refine cw_ret ?_
      rw [decide_eq_false (show ¬ codeOf (some 7) = 0 by decide)]
      skip
      exact ⟨_, res1 rfl rfl, rfl⟩
end
end Go.HE
