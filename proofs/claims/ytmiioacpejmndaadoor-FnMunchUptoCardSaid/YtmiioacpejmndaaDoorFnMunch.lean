/- The tokens are the longest words that an automaton accepts, one after the other: the walk. Conditions: those of the contracts. -/
import Derived.Test.YtmiioacpejmndaaDoorMunchS
import Derived.Test.YtmiioacpejmndaaDoorFork
set_option maxRecDepth 100000
set_option maxHeartbeats 4000000
namespace Go.HE
open Go.RowKit Go.Proofs
section
variable {W : World} {E : Nat → Addr} {nv fv : Value} {M : Au}
theorem fnMunch_ct (hE : Errs W E) (hM : Mach W nv fv M) (ps : List Int) (text : List UInt8) (pv : Value) (tog brk : Bool) (c most : Int) (hpv : Pcs W pv ps) (htl : text.length ≤ 1099511627776) (hpl : ps.length ≤ 4611686018427387904) (hmost : most ≤ 9223372036854775807) :
    Ct Tryd.prog W 11 #[.agg #[str text, pv, .bool tog, .bool brk], .agg #[.int .i64 c, .int .i64 most], .agg #[.int .i64 M.classes, nv, fv]] [] (fun v _ => v = .bool true) := by
  obtain ⟨ts, e, hmu⟩ := munch_ex M _ text rfl
  have htn := hmu.len
  refine ct_of_cw (vs := [_, _, _]) Tryd.func11 rfl rfl fun w1 => ?_
  refine cw_seq ?_; refine cw_region ?_
  refine ol_box rfl rfl fun b3 => ?_
  refine ol_box rfl rfl fun b4 => ?_
  refine ol_box rfl rfl fun b5 => ?_
  refine ol_ev (ev_assign rfl) rfl ?_; refine ol_nil ?_; refine cw_seq ?_; refine cw_seq ?_
  refine cw_float [(0, false), (1, false), (2, false), (3, false), (4, false), (5, true), (6, false), (7, false), (8, false), (9, false), (10, false)] [(b5, ⟨[.int .i64 M.classes, nv, fv], 51, (0, 0)⟩), (b4, ⟨[.int .i64 c, .int .i64 most], 26, (0, 0)⟩), (b3, ⟨[str text, pv, .bool tog, .bool brk], 24, (0, 0)⟩)] mixed (by kernel_rfl) (List.Sublist.refl _) (fun _ _ _ h => h) (fun _ _ h => h) ?_
  refine fl_ev rfl (ev_fld rfl) rfl ?_; refine fl_ev rfl (ev_load rfl m2 rfl) rfl ?_; refine fl_ev rfl (ev_len_str rfl) rfl ?_; (refine fl_ev rfl (ev_add rfl rfl ?_) rfl ?_; (constructor <;> omega))
  refine fl_ev rfl (ev_loadS (cs := [.int .i64 c, .int .i64 most]) rfl rfl m1 rfl) rfl ?_
  refine fl_x rfl ?_
  refine ol_call1 (G := []) (cap := []) rfl rfl rfl (limit_ct c most) (List.Perm.refl _) ?_
  rintro v G' rfl
  refine OL.drop ?_
  refine ol_nil ⟨sub_refl, ?_⟩
  refine fl_ev rfl (ev_ge rfl rfl) rfl ?_; refine fl_ev rfl (ev_move rfl) rfl ?_
  by_cases hlim : limitOf c most ≤ ((text.length : Nat) : Int) + 1
  · rw [decide_eq_true hlim]
    refine fl_off rfl rfl rfl rfl rfl rfl ?_; refine fl_off rfl rfl rfl rfl rfl rfl ?_; refine fl_ev rfl (ev_pick_t rfl rfl) rfl ?_
    refine fl_nil ?_
    refine cw_if_t rfl ?_; refine cw_seq ?_; refine cw_region ?_; refine ol_ev (ev_assign rfl) rfl ?_; refine ol_nil ?_; refine cw_ret ?_
    exact ⟨_, res1 rfl rfl, rfl⟩
  rw [decide_eq_false hlim]
  cases brk with
  | true =>
    refine fl_ev_on rfl rfl rfl (ev_fld rfl) rfl rfl ?_; refine fl_ev_on rfl rfl rfl (ev_load rfl m2 rfl) rfl rfl ?_; refine fl_ev rfl (ev_pick_f rfl rfl) rfl ?_
    refine fl_nil ?_
    refine cw_if_t rfl ?_; refine cw_seq ?_; refine cw_region ?_; refine ol_ev (ev_assign rfl) rfl ?_; refine ol_nil ?_; refine cw_ret ?_
    exact ⟨_, res1 rfl rfl, rfl⟩
  | false =>
    refine fl_ev_on rfl rfl rfl (ev_fld rfl) rfl rfl ?_; refine fl_ev_on rfl rfl rfl (ev_load rfl m2 rfl) rfl rfl ?_; refine fl_ev rfl (ev_pick_f rfl rfl) rfl ?_
    refine fl_nil ?_
    refine cw_if_f rfl ?_; refine cw_skip ?_; refine cw_seq ?_; refine cw_region ?_
    refine ol_ev (ev_loadS (cs := [str text, pv, .bool tog, .bool false]) rfl rfl m2 rfl) rfl ?_
    refine ol_ev (ev_loadS (cs := [.int .i64 c, .int .i64 most]) rfl rfl m1 rfl) rfl ?_
    refine ol_ev (ev_loadS (cs := [.int .i64 M.classes, nv, fv]) rfl rfl m0 rfl) rfl ?_
    refine ol_call3 (G := []) (cap := []) rfl rfl rfl rfl rfl (munch_ct hE hM ps text pv tog c most ts e hpv (by omega) hpl hmost (by omega) (mrun hmu (by omega)) (munch_ne0 hmu.err) (by omega)) (List.Perm.refl _) ?_
    rintro v G2 ⟨u2, rfl, ⟨bg, cg, sg, rfl, hg, hcg⟩⟩
    refine OL.keep hg ?_
    refine ol_ev (ev_move rfl) rfl ?_; refine ol_ev (ev_extract rfl rfl) rfl ?_; refine ol_ev (ev_extract rfl rfl) rfl ?_; refine ol_ev (ev_assign rfl) rfl ?_; refine ol_ev (ev_assign rfl) rfl ?_; refine ol_nil ?_
    refine cw_cut (fun l' H' => ∃ b9 b cp sp, SubE l' [(7, .slice (some ⟨bg, 0, none⟩) ts.length cg), (8, .int .i64 (codeOf e)), (9, .pointer (some ⟨b9, 0, none⟩))] ∧
      H' = (b9, ⟨[.slice (some ⟨b, 0, none⟩) ts.length cp, .int .i64 (codeOf e)], 30, (0, 0)⟩) :: (b, strO ts sp) :: (bg, strO ts sg) :: (b5, ⟨[.int .i64 M.classes, nv, fv], 51, (0, 0)⟩) :: (b4, ⟨[.int .i64 c, .int .i64 most], 26, (0, 0)⟩) :: (b3, ⟨[str text, pv, .bool tog, .bool false], 24, (0, 0)⟩) :: [] ∧ ts.length ≤ cp) ?_ ?_
    · refine cw_fork (.fr 0 (.fr 1 (.fr 2 (.alt (.ef 3 (.alt (.ef 4 (.ef 5 (.ef 6 .nil))) (.ef 5 (.ef 4 (.ef 6 .nil))))) (.ef 5 (.ef 3 (.ef 4 (.ef 6 .nil)))))))) ((bg, strO ts sg) :: (b5, ⟨[.int .i64 M.classes, nv, fv], 51, (0, 0)⟩) :: (b4, ⟨[.int .i64 c, .int .i64 most], 26, (0, 0)⟩) :: (b3, ⟨[str text, pv, .bool tog, .bool false], 24, (0, 0)⟩) :: []) mixed (by kernel_rfl) (List.Sublist.refl _) (fun _ _ _ h => h) (fun _ _ h => h) ?_
      refine ft_ev rfl (ev_fld rfl) rfl ?_
      refine ft_ev rfl (ev_load rfl m3 rfl) rfl ?_
      refine ft_ev rfl (ev_loadS (cs := [.int .i64 M.classes, nv, fv]) rfl rfl m1 rfl) rfl ?_
      refine ft_alt ?_ ?_
      · refine ft_x rfl ?_
        refine ol_call1 (G := []) (cap := []) rfl rfl rfl (automaton_ct hM) (List.Perm.refl _) ?_
        rintro v G' rfl
        refine OL.drop ?_
        refine ol_nil ⟨sub_refl, ?_⟩
        refine ft_alt ?_ ?_
        · refine ft_x rfl ?_
          refine ol_call2 (G := []) (cap := []) rfl rfl rfl rfl (specMunch_ct hM text ts e hmu htl) (List.Perm.refl _) ?_
          rintro v G3 ⟨u, rfl, ⟨b, cp, sp, rfl, hm, hcp⟩⟩
          refine OL.keep hm ?_
          refine ol_nil ⟨sub_tail sub_refl, ?_⟩
          refine ft_x rfl ?_
          refine ol_alloc rfl fun b9 => ?_
          refine ol_nil ⟨sub_tail (sub_tail sub_refl), ?_⟩
          refine ft_x rfl ?_
          refine ol_storeS (o := ⟨[.slice none 0 0, .int .i64 0], 30, (0, 0)⟩) (cs := [.slice (some ⟨b, 0, none⟩) ts.length cp, .int .i64 (codeOf e)]) rfl rfl rfl (by simp [Value.oneCell']) u0 rfl rfl ?_
          refine ol_nil ⟨sub_tail (sub_tail sub_refl), ?_⟩
          refine ft_nil ?_
          exact ⟨b9, b, cp, sp, ⟨rfl, rfl, rfl, trivial⟩, rfl, hcp⟩
        · refine ft_x rfl ?_
          refine ol_alloc rfl fun b9 => ?_
          refine ol_nil ⟨sub_tail sub_refl, ?_⟩
          refine ft_x rfl ?_
          refine ol_call2 (G := []) (cap := []) rfl rfl rfl rfl (specMunch_ct hM text ts e hmu htl) (List.Perm.refl _) ?_
          rintro v G3 ⟨u, rfl, ⟨b, cp, sp, rfl, hm, hcp⟩⟩
          refine OL.keep hm ?_
          refine ol_nil ⟨sub_tail (sub_tail sub_refl), ?_⟩
          refine ft_x rfl ?_
          refine OL.perm (List.Perm.swap _ _ _) ?_
          refine ol_storeS (o := ⟨[.slice none 0 0, .int .i64 0], 30, (0, 0)⟩) (cs := [.slice (some ⟨b, 0, none⟩) ts.length cp, .int .i64 (codeOf e)]) rfl rfl rfl (by simp [Value.oneCell']) u0 rfl rfl ?_
          refine ol_nil ⟨sub_tail (sub_tail sub_refl), ?_⟩
          refine ft_nil ?_
          exact ⟨b9, b, cp, sp, ⟨rfl, rfl, rfl, trivial⟩, rfl, hcp⟩
      · refine ft_x rfl ?_
        refine ol_alloc rfl fun b9 => ?_
        refine ol_nil ⟨sub_tail sub_refl, ?_⟩
        refine ft_x rfl ?_
        refine ol_call1 (G := []) (cap := []) rfl rfl rfl (automaton_ct hM) (List.Perm.refl _) ?_
        rintro v G' rfl
        refine OL.drop ?_
        refine ol_nil ⟨sub_tail sub_refl, ?_⟩
        refine ft_x rfl ?_
        refine ol_call2 (G := []) (cap := []) rfl rfl rfl rfl (specMunch_ct hM text ts e hmu htl) (List.Perm.refl _) ?_
        rintro v G3 ⟨u, rfl, ⟨b, cp, sp, rfl, hm, hcp⟩⟩
        refine OL.keep hm ?_
        refine ol_nil ⟨sub_tail (sub_tail sub_refl), ?_⟩
        refine ft_x rfl ?_
        refine OL.perm (List.Perm.swap _ _ _) ?_
        refine ol_storeS (o := ⟨[.slice none 0 0, .int .i64 0], 30, (0, 0)⟩) (cs := [.slice (some ⟨b, 0, none⟩) ts.length cp, .int .i64 (codeOf e)]) rfl rfl rfl (by simp [Value.oneCell']) u0 rfl rfl ?_
        refine ol_nil ⟨sub_tail (sub_tail sub_refl), ?_⟩
        refine ft_nil ?_
        exact ⟨b9, b, cp, sp, ⟨rfl, rfl, rfl, trivial⟩, rfl, hcp⟩
    · rintro l' H' ⟨b9, b, cp, sp, hl', rfl, hcp⟩
      refine CW.weak hl' ?_
      clear hl'
      refine cw_seq ?_; refine cw_region ?_; refine ol_ev (ev_move rfl) rfl ?_; refine ol_ev (ev_fld rfl) rfl ?_; refine ol_ev (ev_load rfl m0 rfl) rfl ?_
      refine ol_call2 (cap := []) (R := []) rfl rfl rfl rfl (same_ct _ _ _ ts ts ⟨bg, cg, sg, rfl, m2, hcg⟩ ⟨b, cp, sp, rfl, m1, hcp⟩ (by omega)) (List.Perm.of_eq (List.append_nil _).symm) ?_
      rintro v G4 ⟨rfl, rfl⟩
      rw [decide_eq_true rfl]
      refine OL.nil_app ?_
      refine ol_ev (ev_move rfl) rfl ?_; refine ol_on rfl rfl rfl ?_; refine ol_ev (ev_move rfl) rfl ?_; refine ol_on rfl rfl rfl ?_; refine ol_ev (ev_fld rfl) rfl ?_; refine ol_on rfl rfl rfl ?_; refine ol_ev (ev_load rfl m0 rfl) rfl ?_; refine ol_on rfl rfl rfl ?_; refine ol_ev (ev_eq rfl rfl) rfl ?_; refine ol_ev (ev_pick_t rfl rfl) rfl ?_; refine ol_ev (ev_assign rfl) rfl ?_; refine ol_nil ?_; refine cw_ret ?_
      rw [decide_eq_true rfl]
      skip
      exact ⟨_, res1 rfl rfl, rfl⟩
end
end Go.HE
