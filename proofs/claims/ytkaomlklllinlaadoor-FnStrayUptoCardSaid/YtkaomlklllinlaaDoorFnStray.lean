/- Behind n tokens a wrong advance ends them, with the error of its kind, if there is a further one: the walk. Conditions: those of the contracts. -/
import Derived.Test.YtkaomlklllinlaaDoorLayC
set_option maxRecDepth 100000
set_option maxHeartbeats 4000000
namespace Go.HE
open Go.RowKit Go.Proofs
section
variable {W : World} {E : Nat → Addr}
theorem fnStray_ct (hE : Errs W E) (hT : Lib.Utf8Tabs 10 11 W) (ps : List Int) (text : List UInt8) (pv : Value) (tog brk : Bool) (c most : Int) (b : Bs) (n : Nat) (hn : n ≤ 255) (hxl : b.x.length ≤ 549755813888) (hpv : Pcs W pv ps) (htl : text.length ≤ 549755813888) (hpl : ps.length ≤ 4611686018427387904) (hmost : most ≤ 9223372036854775807) :
    Ct Tryd.prog W 12 #[.agg #[str text, pv, .bool tog, .bool brk], .agg #[.int .i64 c, .int .i64 most], .agg b.cells.toArray, .int .u8 (n : Int)] [] (fun v _ => v = .bool true) := by
  obtain ⟨ts, err, hb⟩ := base_ex sepOf_ne b text
  have htn := hb.len sepOf_ne
  have qA : laysT [] ts err = (ts, err) := by rfl
  have qX : laysT [(⟨7, (n : Int), []⟩ : Ly)] ts err = (ts.take n, strayE true n ts err) := by show (ts.take (max (n : Int) 0).toNat, strayE true (max (n : Int) 0).toNat ts err) = _; rw [show (max (n : Int) 0).toNat = n by omega]
  have qY : laysT [(⟨8, (n : Int), []⟩ : Ly)] ts err = (ts.take n, strayE false n ts err) := by show (ts.take (max (n : Int) 0).toNat, strayE false (max (n : Int) 0).toNat ts err) = _; rw [show (max (n : Int) 0).toNat = n by omega]
  have hxlen : (ts.take n).length = min n ts.length := List.length_take
  generalize hxs : ts.take n = xs at qX qY hxlen
  generalize heX : strayE true n ts err = eX at qX
  generalize heY : strayE false n ts err = eY at qY
  refine ct_of_cw (vs := [_, _, _, _]) Tryd.func12 rfl rfl fun w1 => ?_
  refine cw_seq ?_; refine cw_region ?_
  refine ol_box rfl rfl fun b0 => ?_
  refine ol_box rfl rfl fun b1 => ?_
  refine ol_box rfl rfl fun b2 => ?_
  refine ol_ev (ev_assign rfl) rfl ?_; refine ol_nil ?_; refine cw_seq ?_; refine cw_seq ?_
  refine cw_float [(0, false), (1, false), (2, false), (3, false), (4, false), (5, true), (6, false), (7, false), (8, false), (9, false), (10, false)] [(b2, ⟨(Value.agg b.cells.toArray).cells.toList, 28, (0, 0)⟩), (b1, ⟨[.int .i64 c, .int .i64 most], 26, (0, 0)⟩), (b0, ⟨[str text, pv, .bool tog, .bool brk], 24, (0, 0)⟩)] mixed (by kernel_rfl) (List.Sublist.refl _) (fun _ _ _ h => h) (fun _ _ h => h) ?_
  refine fl_ev rfl (ev_fld rfl) rfl ?_; refine fl_ev rfl (ev_load rfl m2 rfl) rfl ?_; refine fl_ev rfl (ev_len_str rfl) rfl ?_; (refine fl_ev rfl (ev_add rfl rfl ?_) rfl ?_; (constructor <;> omega))
  refine fl_ev rfl (ev_loadS (cs := [.int .i64 c, .int .i64 most]) rfl rfl m1 rfl) rfl ?_
  refine fl_x rfl ?_
  refine ol_call1 (G := []) (cap := []) rfl rfl rfl (limit_ct c most) (List.Perm.refl _) ?_
  rintro v G' rfl
  refine OL.drop ?_
  refine ol_nil ⟨sub_refl, ?_⟩
  refine fl_ev rfl (ev_ge rfl rfl) rfl ?_; refine fl_ev rfl (ev_move rfl) rfl ?_
  by_cases hlim : limitOf c most ≤ ((text.length : Nat) : Int) + 1
  · rw [decide_eq_true hlim]
    refine fl_off rfl rfl rfl rfl rfl rfl ?_; refine fl_off rfl rfl rfl rfl rfl rfl ?_; refine fl_ev rfl (ev_pick_t rfl rfl) rfl ?_
    refine fl_nil ?_
    refine cw_if_t rfl ?_; refine cw_seq ?_; refine cw_region ?_; refine ol_ev (ev_assign rfl) rfl ?_; refine ol_nil ?_; refine cw_ret ?_
    exact ⟨_, res1 rfl rfl, rfl⟩
  rw [decide_eq_false hlim]
  cases brk with
  | true =>
    refine fl_ev_on rfl rfl rfl (ev_fld rfl) rfl rfl ?_; refine fl_ev_on rfl rfl rfl (ev_load rfl m2 rfl) rfl rfl ?_; refine fl_ev rfl (ev_pick_f rfl rfl) rfl ?_
    refine fl_nil ?_
    refine cw_if_t rfl ?_; refine cw_seq ?_; refine cw_region ?_; refine ol_ev (ev_assign rfl) rfl ?_; refine ol_nil ?_; refine cw_ret ?_
    exact ⟨_, res1 rfl rfl, rfl⟩
  | false =>
    refine fl_ev_on rfl rfl rfl (ev_fld rfl) rfl rfl ?_; refine fl_ev_on rfl rfl rfl (ev_load rfl m2 rfl) rfl rfl ?_; refine fl_ev rfl (ev_pick_f rfl rfl) rfl ?_
    refine fl_nil ?_
    refine cw_if_f rfl ?_; refine cw_skip ?_; refine cw_seq ?_; refine cw_region ?_
    refine ol_ev (ev_loadS (cs := [str text, pv, .bool tog, .bool false]) rfl rfl m2 rfl) rfl ?_
    refine ol_ev (ev_loadS (cs := [.int .i64 c, .int .i64 most]) rfl rfl m1 rfl) rfl ?_
    refine ol_ev (ev_loadS (cs := b.cells) rfl rfl m0 rfl) rfl ?_
    have cA := Layered_ct hE hT ps text pv tog c most b hxl [] _ [] lays_nil (by simp) (by simp) hpv htl hpl hmost (by omega) ts err hb
    rw [qA] at cA
    simp only at cA
    refine ol_call4 (G := []) (cap := []) rfl rfl rfl rfl rfl rfl cA (List.Perm.refl _) ?_
    rintro v GA ⟨uA, rfl, ⟨bgA, cgA, sgA, rfl, hgA, hcgA⟩⟩
    refine OL.keep hgA ?_
    refine ol_ev (ev_move rfl) rfl ?_; refine ol_ev (ev_extract rfl rfl) rfl ?_; refine ol_ev (ev_extract rfl rfl) rfl ?_; refine ol_ev (ev_assign rfl) rfl ?_; refine ol_ev (ev_assign rfl) rfl ?_; refine ol_nil ?_; refine cw_seq ?_; refine cw_region ?_
    refine ol_ev (ev_loadS (cs := [str text, pv, .bool tog, .bool false]) rfl rfl m3 rfl) rfl ?_
    refine ol_ev (ev_loadS (cs := [.int .i64 c, .int .i64 most]) rfl rfl m2 rfl) rfl ?_
    refine ol_ev (ev_loadS (cs := b.cells) rfl rfl m1 rfl) rfl ?_
    refine ol_ev (ev_move rfl) rfl ?_
    refine ol_ev (ev_conv_int (m := (n : Int)) rfl (wrap_i64 ⟨by omega, by omega⟩)) rfl ?_
    refine ol_ev (ev_build2 rfl rfl rfl) rfl ?_
    refine ol_lays1 (a := (⟨7, (n : Int), []⟩ : Ly)) rfl rfl fun lb => ?_
    have cX := Layered_ct hE hT ps text pv tog c most b hxl [(lb, laysO [(⟨7, (n : Int), []⟩ : Ly)])] _ [(⟨7, (n : Int), []⟩ : Ly)] (laysO_at m0) (by simp) (by simp; omega) hpv htl hpl hmost (by omega) ts err hb
    rw [qX] at cX
    simp only at cX
    refine ol_call4 (G := [(lb, laysO [(⟨7, (n : Int), []⟩ : Ly)])]) (cap := []) rfl rfl rfl rfl rfl rfl cX (List.Perm.refl _) ?_
    rintro v GX ⟨uX, rfl, ⟨bgX, cgX, sgX, rfl, hgX, hcgX⟩⟩
    refine OL.keep hgX ?_
    refine ol_ev (ev_move rfl) rfl ?_; refine ol_ev (ev_extract rfl rfl) rfl ?_; refine ol_ev (ev_extract rfl rfl) rfl ?_; refine ol_ev (ev_assign rfl) rfl ?_; refine ol_ev (ev_assign rfl) rfl ?_; refine ol_nil ?_; refine cw_seq ?_; refine cw_region ?_
    refine ol_ev (ev_loadS (cs := [str text, pv, .bool tog, .bool false]) rfl rfl m4 rfl) rfl ?_
    refine ol_ev (ev_loadS (cs := [.int .i64 c, .int .i64 most]) rfl rfl m3 rfl) rfl ?_
    refine ol_ev (ev_loadS (cs := b.cells) rfl rfl m2 rfl) rfl ?_
    refine ol_ev (ev_move rfl) rfl ?_
    refine ol_ev (ev_conv_int (m := (n : Int)) rfl (wrap_i64 ⟨by omega, by omega⟩)) rfl ?_
    refine ol_ev (ev_build2 rfl rfl rfl) rfl ?_
    refine ol_lays1 (a := (⟨8, (n : Int), []⟩ : Ly)) rfl rfl fun lc => ?_
    have cY := Layered_ct hE hT ps text pv tog c most b hxl [(lc, laysO [(⟨8, (n : Int), []⟩ : Ly)])] _ [(⟨8, (n : Int), []⟩ : Ly)] (laysO_at m0) (by simp) (by simp; omega) hpv htl hpl hmost (by omega) ts err hb
    rw [qY] at cY
    simp only at cY
    refine ol_call4 (G := [(lc, laysO [(⟨8, (n : Int), []⟩ : Ly)])]) (cap := []) rfl rfl rfl rfl rfl rfl cY (List.Perm.refl _) ?_
    rintro v GY ⟨uY, rfl, ⟨bgY, cgY, sgY, rfl, hgY, hcgY⟩⟩
    refine OL.keep hgY ?_
    refine ol_ev (ev_move rfl) rfl ?_; refine ol_ev (ev_extract rfl rfl) rfl ?_; refine ol_ev (ev_extract rfl rfl) rfl ?_; refine ol_ev (ev_assign rfl) rfl ?_; refine ol_ev (ev_assign rfl) rfl ?_; refine ol_nil ?_; refine cw_seq ?_; refine cw_seq ?_; refine cw_region ?_; refine ol_ev (ev_move rfl) rfl ?_; refine ol_ev (ev_len_s rfl) rfl ?_; refine ol_ev (ev_move rfl) rfl ?_
    refine ol_ev (ev_conv_int (m := (n : Int)) rfl (wrap_i64 ⟨by omega, by omega⟩)) rfl ?_
    refine ol_ev (ev_le rfl rfl) rfl ?_; refine ol_nil ?_
    refine cw_ifd rfl (fun h0 => ?_) (fun h0 => ?_)
    · have hx2 : xs = ts := by rw [← hxs, List.take_of_length_le (by omega)]
      subst hx2
      have hX : eX = err := by rw [← heX]; unfold strayE; rw [if_pos (by omega)]
      have hY : eY = err := by rw [← heY]; unfold strayE; rw [if_pos (by omega)]
      subst hX hY
      refine cw_seq ?_; refine cw_region ?_; refine ol_ev (ev_move rfl) rfl ?_; refine ol_ev (ev_move rfl) rfl ?_
      refine ol_call2 (cap := []) (R := []) rfl rfl rfl rfl (same_ct _ _ _ (xs) (xs) ⟨bgX, cgX, sgX, rfl, m1, hcgX⟩ ⟨bgA, cgA, sgA, rfl, m2, hcgA⟩ (by omega)) (List.Perm.of_eq (List.append_nil _).symm) ?_
      rintro v G9 ⟨rfl, rfl⟩
      rw [decide_eq_true (show xs = xs from rfl)]
      refine OL.nil_app ?_
      refine ol_ev (ev_move rfl) rfl ?_; refine ol_on rfl rfl rfl ?_; refine ol_ev (ev_move rfl) rfl ?_; refine ol_on rfl rfl rfl ?_; refine ol_ev (ev_move rfl) rfl ?_; refine ol_on rfl rfl rfl ?_
      refine ol_call2 (cap := []) (R := []) rfl rfl rfl rfl (same_ct _ _ _ (xs) (xs) ⟨bgY, cgY, sgY, rfl, m0, hcgY⟩ ⟨bgA, cgA, sgA, rfl, m2, hcgA⟩ (by omega)) (List.Perm.of_eq (List.append_nil _).symm) ?_
      rintro v G9 ⟨rfl, rfl⟩
      rw [decide_eq_true (show xs = xs from rfl)]
      refine OL.nil_app ?_
      refine ol_ev (ev_pick_t rfl rfl) rfl ?_; refine ol_ev (ev_move rfl) rfl ?_; refine ol_on rfl rfl rfl ?_; refine ol_ev (ev_move rfl) rfl ?_; refine ol_on rfl rfl rfl ?_; refine ol_ev (ev_move rfl) rfl ?_; refine ol_on rfl rfl rfl ?_; refine ol_ev (ev_eq rfl rfl) rfl ?_; refine ol_ev (ev_pick_t rfl rfl) rfl ?_; refine ol_ev (ev_move rfl) rfl ?_
      rw [decide_eq_true (show codeOf eY = codeOf eY from rfl)]
      refine ol_on rfl rfl rfl ?_; refine ol_ev (ev_move rfl) rfl ?_; refine ol_on rfl rfl rfl ?_; refine ol_ev (ev_move rfl) rfl ?_; refine ol_on rfl rfl rfl ?_; refine ol_ev (ev_eq rfl rfl) rfl ?_; refine ol_ev (ev_pick_t rfl rfl) rfl ?_; refine ol_ev (ev_move rfl) rfl ?_
      rw [decide_eq_true (show codeOf eY = codeOf eY from rfl)]
      refine ol_on rfl rfl rfl ?_
      refine ol_ev (ev_loadS (cs := [str text, pv, .bool tog, .bool false]) rfl rfl m5 rfl) rfl ?_
      refine ol_on rfl rfl rfl ?_
      refine ol_ev (ev_loadS (cs := [.int .i64 c, .int .i64 most]) rfl rfl m4 rfl) rfl ?_
      refine ol_on rfl rfl rfl ?_
      refine ol_call2 (G := []) (cap := []) rfl rfl rfl rfl (living_ct hE ps text pv tog c most hpv htl hpl hmost (by omega)) (List.Perm.refl _) ?_
      rintro v G9 rfl
      refine OL.drop ?_
      refine ol_ev (ev_pick_t rfl rfl) rfl ?_; refine ol_ev (ev_assign rfl) rfl ?_; refine ol_nil ?_; refine cw_ret ?_
      exact ⟨_, res1 rfl rfl, rfl⟩
    · have hX : eX = some 4 := by rw [← heX]; unfold strayE; rw [if_neg (by omega)]; rfl
      have hY : eY = some 3 := by rw [← heY]; unfold strayE; rw [if_neg (by omega)]; rfl
      subst hX hY
      refine cw_skip ?_; refine cw_seq ?_; refine cw_region ?_; (iterate 3 (refine ol_ev (ev_move rfl) rfl ?_))
      refine ol_ev (ev_conv_int (m := (n : Int)) rfl (wrap_i64 ⟨by omega, by omega⟩)) rfl ?_
      refine ol_ev (ev_slice_to rfl rfl (by omega) (by omega)) rfl ?_
      rw [show ((n : Nat) : Int).toNat = n by omega]
      skip
      refine ol_call2 (cap := []) (R := []) rfl rfl rfl rfl (same_ct _ _ _ xs (ts.take n) ⟨bgX, cgX, sgX, rfl, m1, hcgX⟩ (StrsAt.take m2 (by omega) (by omega)) (by omega)) (List.Perm.of_eq (List.append_nil _).symm) ?_
      rintro v G9 ⟨rfl, rfl⟩
      rw [decide_eq_true (show xs = ts.take n from hxs.symm)]
      refine OL.nil_app ?_
      refine ol_ev (ev_move rfl) rfl ?_; refine ol_on rfl rfl rfl ?_; refine ol_ev (ev_move rfl) rfl ?_; refine ol_on rfl rfl rfl ?_; refine ol_ev (ev_move rfl) rfl ?_; refine ol_on rfl rfl rfl ?_
      refine ol_call2 (cap := []) (R := []) rfl rfl rfl rfl (same_ct _ _ _ (xs) (xs) ⟨bgY, cgY, sgY, rfl, m0, hcgY⟩ ⟨bgX, cgX, sgX, rfl, m1, hcgX⟩ (by omega)) (List.Perm.of_eq (List.append_nil _).symm) ?_
      rintro v G9 ⟨rfl, rfl⟩
      rw [decide_eq_true (show xs = xs from rfl)]
      refine OL.nil_app ?_
      refine ol_ev (ev_pick_t rfl rfl) rfl ?_; refine ol_ev (ev_move rfl) rfl ?_; refine ol_on rfl rfl rfl ?_; refine ol_ev (ev_move rfl) rfl ?_; refine ol_on rfl rfl rfl ?_; refine ol_ev (ev_eq rfl rfl) rfl ?_; refine ol_ev (ev_pick_t rfl rfl) rfl ?_; refine ol_ev (ev_move rfl) rfl ?_; refine ol_on rfl rfl rfl ?_; refine ol_ev (ev_move rfl) rfl ?_; refine ol_on rfl rfl rfl ?_; refine ol_ev (ev_eq rfl rfl) rfl ?_; refine ol_ev (ev_pick_t rfl rfl) rfl ?_; refine ol_ev (ev_move rfl) rfl ?_; refine ol_on rfl rfl rfl ?_
      refine ol_ev (ev_loadS (cs := [str text, pv, .bool tog, .bool false]) rfl rfl m5 rfl) rfl ?_
      refine ol_on rfl rfl rfl ?_
      refine ol_ev (ev_loadS (cs := [.int .i64 c, .int .i64 most]) rfl rfl m4 rfl) rfl ?_
      refine ol_on rfl rfl rfl ?_
      refine ol_call2 (G := []) (cap := []) rfl rfl rfl rfl (living_ct hE ps text pv tog c most hpv htl hpl hmost (by omega)) (List.Perm.refl _) ?_
      rintro v G9 rfl
      refine OL.drop ?_
      refine ol_ev (ev_pick_t rfl rfl) rfl ?_; refine ol_ev (ev_assign rfl) rfl ?_; refine ol_nil ?_; refine cw_ret ?_
      exact ⟨_, res1 rfl rfl, rfl⟩
end
end Go.HE
