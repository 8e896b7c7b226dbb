/- The first n of the first m tokens are the first ones, as many as the less of both, without an error: the walk. Conditions: those of the contracts. -/
import Derived.Test.YtkaomlklllinlaaDoorLayC
set_option maxRecDepth 100000
set_option maxHeartbeats 4000000
namespace Go.HE
open Go.RowKit Go.Proofs
theorem takeE_take (n m : Int) (ts : List (List UInt8)) (err : Option Nat) : takeE n (ts.take m.toNat) (takeE m ts err) = takeE (min n m) ts err := by
  have hl : (ts.take m.toNat).length = min m.toNat ts.length := List.length_take
  unfold takeE
  rw [hl]
  by_cases h1 : (ts.length : Int) < m
  · rw [if_pos h1]
    by_cases h2 : (ts.length : Int) < n
    · rw [if_pos (by omega), if_pos (by omega)]
    · rw [if_neg (by omega), if_neg (by omega)]
  · rw [if_neg h1]
    have : ¬ (ts.length : Int) < min n m := by omega
    rw [if_neg this]
    split <;> rfl
section
variable {W : World} {E : Nat → Addr}
theorem fnTakeTake_ct (hE : Errs W E) (hT : Lib.Utf8Tabs 10 11 W) (ps : List Int) (text : List UInt8) (pv : Value) (tog brk : Bool) (c most : Int) (b : Bs) (n m : Int) (hn : inI n) (hm : inI m) (hxl : b.x.length ≤ 549755813888) (hpv : Pcs W pv ps) (htl : text.length ≤ 549755813888) (hpl : ps.length ≤ 4611686018427387904) (hmost : most ≤ 9223372036854775807) :
    Ct Tryd.prog W 3 #[.agg #[str text, pv, .bool tog, .bool brk], .agg #[.int .i64 c, .int .i64 most], .agg b.cells.toArray, .int .i64 n, .int .i64 m] [] (fun v _ => v = .bool true) := by
  obtain ⟨ts, err, hb⟩ := base_ex sepOf_ne b text
  have htn := hb.len sepOf_ne
  obtain ⟨hn1, hn2⟩ := hn
  obtain ⟨hm1, hm2⟩ := hm
  have qA : laysT [] ts err = (ts, err) := by rfl
  have qX : laysT [(⟨1, m, []⟩ : Ly), (⟨1, n, []⟩ : Ly)] ts err = (ts.take (min n m).toNat, takeE (min n m) ts err) := by show ((ts.take m.toNat).take n.toNat, takeE n (ts.take m.toNat) (takeE m ts err)) = _; rw [takeE_take, List.take_take, show min n.toNat m.toNat = (min n m).toNat by omega]
  have qY : laysT [(⟨1, min n m, []⟩ : Ly)] ts err = (ts.take (min n m).toNat, takeE (min n m) ts err) := by rfl
  have hxlen : (ts.take (min n m).toNat).length = min (min n m).toNat ts.length := List.length_take
  generalize hxs : ts.take (min n m).toNat = xs at qX qY hxlen
  have hpre : ts.take xs.length = xs := by rw [hxlen, ← hxs, Nat.min_comm, ← List.take_take, List.take_of_length_le (by rw [List.length_take]; omega)]
  have hee : ¬ ((ts.length : Nat) : Int) < min n m → takeE (min n m) ts err = none := fun h => by unfold takeE; rw [if_neg h]
  generalize takeE (min n m) ts err = ex at qX qY hee
  refine ct_of_cw (vs := [_, _, _, _, _]) Tryd.func3 rfl rfl fun w1 => ?_
  refine cw_seq ?_; refine cw_region ?_
  refine ol_box rfl rfl fun b0 => ?_
  refine ol_box rfl rfl fun b1 => ?_
  refine ol_box rfl rfl fun b2 => ?_
  refine ol_ev (ev_assign rfl) rfl ?_; refine ol_nil ?_; refine cw_seq ?_; refine cw_seq ?_
  refine cw_float [(0, false), (1, false), (2, false), (3, false), (4, false), (5, true), (6, false), (7, false), (8, false), (9, false), (10, false)] [(b2, ⟨(Value.agg b.cells.toArray).cells.toList, 28, (0, 0)⟩), (b1, ⟨[.int .i64 c, .int .i64 most], 26, (0, 0)⟩), (b0, ⟨[str text, pv, .bool tog, .bool brk], 24, (0, 0)⟩)] mixed (by kernel_rfl) (List.Sublist.refl _) (fun _ _ _ h => h) (fun _ _ h => h) ?_
  refine fl_ev rfl (ev_fld rfl) rfl ?_; refine fl_ev rfl (ev_load rfl m2 rfl) rfl ?_; refine fl_ev rfl (ev_len_str rfl) rfl ?_; (refine fl_ev rfl (ev_add rfl rfl ?_) rfl ?_; (constructor <;> omega))
  refine fl_ev rfl (ev_loadS (cs := [.int .i64 c, .int .i64 most]) rfl rfl m1 rfl) rfl ?_
  refine fl_x rfl ?_
  refine ol_call1 (G := []) (cap := []) rfl rfl rfl (limit_ct c most) (List.Perm.refl _) ?_
  rintro v G' rfl
  refine OL.drop ?_
  refine ol_nil ⟨sub_refl, ?_⟩
  refine fl_ev rfl (ev_ge rfl rfl) rfl ?_; refine fl_ev rfl (ev_move rfl) rfl ?_
  by_cases hlim : limitOf c most ≤ ((text.length : Nat) : Int) + 1
  · rw [decide_eq_true hlim]
    refine fl_off rfl rfl rfl rfl rfl rfl ?_; refine fl_off rfl rfl rfl rfl rfl rfl ?_; refine fl_ev rfl (ev_pick_t rfl rfl) rfl ?_
    refine fl_nil ?_
    refine cw_if_t rfl ?_; refine cw_seq ?_; refine cw_region ?_; refine ol_ev (ev_assign rfl) rfl ?_; refine ol_nil ?_; refine cw_ret ?_
    exact ⟨_, res1 rfl rfl, rfl⟩
  rw [decide_eq_false hlim]
  cases brk with
  | true =>
    refine fl_ev_on rfl rfl rfl (ev_fld rfl) rfl rfl ?_; refine fl_ev_on rfl rfl rfl (ev_load rfl m2 rfl) rfl rfl ?_; refine fl_ev rfl (ev_pick_f rfl rfl) rfl ?_
    refine fl_nil ?_
    refine cw_if_t rfl ?_; refine cw_seq ?_; refine cw_region ?_; refine ol_ev (ev_assign rfl) rfl ?_; refine ol_nil ?_; refine cw_ret ?_
    exact ⟨_, res1 rfl rfl, rfl⟩
  | false =>
    refine fl_ev_on rfl rfl rfl (ev_fld rfl) rfl rfl ?_; refine fl_ev_on rfl rfl rfl (ev_load rfl m2 rfl) rfl rfl ?_; refine fl_ev rfl (ev_pick_f rfl rfl) rfl ?_
    refine fl_nil ?_
    refine cw_if_f rfl ?_
    refine cw_skip ?_
    refine cw_seq ?_
    refine cw_region ?_; refine ol_ev (ev_move rfl) rfl ?_; refine ol_ev (ev_assign rfl) rfl ?_; refine ol_nil ?_
    refine cw_cut (fun l' H' => SubE l' [(3, .int .i64 n), (4, .int .i64 m), (5, .pointer (some ⟨b0, 0, none⟩)), (6, .pointer (some ⟨b1, 0, none⟩)), (7, .pointer (some ⟨b2, 0, none⟩)), (11, .int .i64 (min n m))] ∧ H' = [(b2, ⟨(Value.agg b.cells.toArray).cells.toList, 28, (0, 0)⟩), (b1, ⟨[.int .i64 c, .int .i64 most], 26, (0, 0)⟩), (b0, ⟨[str text, pv, .bool tog, .bool false], 24, (0, 0)⟩)]) ?_ ?_
    · refine cw_seq ?_; refine cw_region ?_; refine ol_ev (ev_move rfl) rfl ?_; refine ol_ev (ev_move rfl) rfl ?_; refine ol_ev (ev_lt rfl rfl) rfl ?_; refine ol_nil ?_
      refine cw_ifd rfl (fun h => ?_) (fun h => ?_)
      · refine cw_region ?_; refine ol_ev (ev_move rfl) rfl ?_; refine ol_ev (ev_assign rfl) rfl ?_; refine ol_nil ?_
        refine ⟨⟨rfl, rfl, rfl, rfl, rfl, ?_, trivial⟩, rfl⟩
        rw [show min n m = m by omega]; rfl
      · refine cw_skip ?_
        refine ⟨⟨rfl, rfl, rfl, rfl, rfl, ?_, trivial⟩, rfl⟩
        rw [show min n m = n by omega]; rfl
    rintro l' H' ⟨hl', rfl⟩
    refine CW.weak hl' ?_
    clear hl'
    refine cw_seq ?_; refine cw_region ?_
    refine ol_ev (ev_loadS (cs := [str text, pv, .bool tog, .bool false]) rfl rfl m2 rfl) rfl ?_
    refine ol_ev (ev_loadS (cs := [.int .i64 c, .int .i64 most]) rfl rfl m1 rfl) rfl ?_
    refine ol_ev (ev_loadS (cs := b.cells) rfl rfl m0 rfl) rfl ?_
    refine ol_ev (ev_move rfl) rfl ?_
    refine ol_ev (ev_build2 rfl rfl rfl) rfl ?_
    refine ol_ev (ev_move rfl) rfl ?_
    refine ol_ev (ev_build2 rfl rfl rfl) rfl ?_
    refine ol_lays2 (a := (⟨1, m, []⟩ : Ly)) (b := (⟨1, n, []⟩ : Ly)) rfl rfl rfl fun lb => ?_
    have cX := Layered_ct hE hT ps text pv tog c most b hxl [(lb, laysO [(⟨1, m, []⟩ : Ly), (⟨1, n, []⟩ : Ly)])] _ [(⟨1, m, []⟩ : Ly), (⟨1, n, []⟩ : Ly)] (laysO_at m0) (by simp) (by simp; omega) hpv htl hpl hmost (by omega) ts err hb
    rw [qX] at cX
    simp only at cX
    refine ol_call4 (G := [(lb, laysO [(⟨1, m, []⟩ : Ly), (⟨1, n, []⟩ : Ly)])]) (cap := []) rfl rfl rfl rfl rfl rfl cX (List.Perm.refl _) ?_
    rintro v GX ⟨uX, rfl, ⟨bgX, cgX, sgX, rfl, hgX, hcgX⟩⟩
    refine OL.keep hgX ?_
    refine ol_ev (ev_move rfl) rfl ?_; refine ol_ev (ev_extract rfl rfl) rfl ?_; refine ol_ev (ev_extract rfl rfl) rfl ?_; refine ol_ev (ev_assign rfl) rfl ?_; refine ol_ev (ev_assign rfl) rfl ?_; refine ol_nil ?_; refine cw_seq ?_; refine cw_region ?_
    refine ol_ev (ev_loadS (cs := [str text, pv, .bool tog, .bool false]) rfl rfl m3 rfl) rfl ?_
    refine ol_ev (ev_loadS (cs := [.int .i64 c, .int .i64 most]) rfl rfl m2 rfl) rfl ?_
    refine ol_ev (ev_loadS (cs := b.cells) rfl rfl m1 rfl) rfl ?_
    refine ol_ev (ev_move rfl) rfl ?_
    refine ol_ev (ev_build2 rfl rfl rfl) rfl ?_
    refine ol_lays1 (a := (⟨1, min n m, []⟩ : Ly)) rfl rfl fun lc => ?_
    have cY := Layered_ct hE hT ps text pv tog c most b hxl [(lc, laysO [(⟨1, min n m, []⟩ : Ly)])] _ [(⟨1, min n m, []⟩ : Ly)] (laysO_at m0) (by simp) (by simp; omega) hpv htl hpl hmost (by omega) ts err hb
    rw [qY] at cY
    simp only at cY
    refine ol_call4 (G := [(lc, laysO [(⟨1, min n m, []⟩ : Ly)])]) (cap := []) rfl rfl rfl rfl rfl rfl cY (List.Perm.refl _) ?_
    rintro v GY ⟨uY, rfl, ⟨bgY, cgY, sgY, rfl, hgY, hcgY⟩⟩
    refine OL.keep hgY ?_
    refine ol_ev (ev_move rfl) rfl ?_; refine ol_ev (ev_extract rfl rfl) rfl ?_; refine ol_ev (ev_extract rfl rfl) rfl ?_; refine ol_ev (ev_assign rfl) rfl ?_; refine ol_ev (ev_assign rfl) rfl ?_; refine ol_nil ?_; refine cw_seq ?_; refine cw_region ?_
    refine ol_ev (ev_loadS (cs := [str text, pv, .bool tog, .bool false]) rfl rfl m4 rfl) rfl ?_
    refine ol_ev (ev_loadS (cs := [.int .i64 c, .int .i64 most]) rfl rfl m3 rfl) rfl ?_
    refine ol_ev (ev_loadS (cs := b.cells) rfl rfl m2 rfl) rfl ?_
    have cA := Layered_ct hE hT ps text pv tog c most b hxl [] _ [] lays_nil (by simp) (by simp) hpv htl hpl hmost (by omega) ts err hb
    rw [qA] at cA
    simp only at cA
    refine ol_call4 (G := []) (cap := []) rfl rfl rfl rfl rfl rfl cA (List.Perm.refl _) ?_
    rintro v GA ⟨uA, rfl, ⟨bgA, cgA, sgA, rfl, hgA, hcgA⟩⟩
    refine OL.keep hgA ?_
    refine ol_ev (ev_move rfl) rfl ?_; refine ol_ev (ev_extract rfl rfl) rfl ?_; refine ol_ev (ev_extract rfl rfl) rfl ?_; refine ol_ev (ev_assign rfl) rfl ?_; refine ol_ev (ev_assign rfl) rfl ?_; refine ol_nil ?_; refine cw_seq ?_; refine cw_seq ?_; refine cw_region ?_; refine ol_ev (ev_move rfl) rfl ?_; refine ol_ev (ev_move rfl) rfl ?_
    refine ol_call2 (cap := []) (R := []) rfl rfl rfl rfl (same_ct _ _ _ xs xs ⟨bgX, cgX, sgX, rfl, m2, hcgX⟩ ⟨bgY, cgY, sgY, rfl, m1, hcgY⟩ (by omega)) (List.Perm.of_eq (List.append_nil _).symm) ?_
    rintro v G9 ⟨rfl, rfl⟩
    rw [decide_eq_true (show xs = xs from rfl)]
    refine OL.nil_app ?_
    refine ol_ev (ev_not rfl) rfl ?_; refine ol_ev (ev_move rfl) rfl ?_; refine ol_on rfl rfl rfl ?_; refine ol_ev (ev_move rfl) rfl ?_; refine ol_on rfl rfl rfl ?_; refine ol_ev (ev_move rfl) rfl ?_; refine ol_on rfl rfl rfl ?_; refine ol_ev (ev_ne rfl rfl) rfl ?_; refine ol_ev (ev_pick_f rfl rfl) rfl ?_; refine ol_ev (ev_move rfl) rfl ?_
    rw [decide_eq_false (show ¬ (codeOf ex ≠ codeOf ex) by simp)]
    refine ol_on rfl rfl rfl ?_; refine ol_ev (ev_move rfl) rfl ?_; refine ol_on rfl rfl rfl ?_; refine ol_ev (ev_len_s rfl) rfl ?_; refine ol_on rfl rfl rfl ?_; refine ol_ev (ev_move rfl) rfl ?_; refine ol_on rfl rfl rfl ?_; refine ol_ev (ev_len_s rfl) rfl ?_; refine ol_on rfl rfl rfl ?_; refine ol_ev (ev_gt rfl rfl) rfl ?_; refine ol_ev (ev_pick_f rfl rfl) rfl ?_; refine ol_ev (ev_move rfl) rfl ?_
    rw [decide_eq_false (show ¬ (((ts.length : Nat) : Int) < ((xs.length : Nat) : Int)) by omega)]
    refine ol_on rfl rfl rfl ?_; refine ol_ev (ev_move rfl) rfl ?_; refine ol_on rfl rfl rfl ?_; refine ol_ev (ev_len_s rfl) rfl ?_; refine ol_on rfl rfl rfl ?_; refine ol_ev (ev_move rfl) rfl ?_; refine ol_on rfl rfl rfl ?_
    refine ol_call2 (G := []) (cap := []) rfl rfl rfl rfl (more_ct (min n m) 0) (List.Perm.refl _) ?_
    rintro v G9 rfl
    refine OL.drop ?_
    refine ol_on rfl rfl rfl ?_; refine ol_ev (ev_gt rfl rfl) rfl ?_; refine ol_ev (ev_pick_f rfl rfl) rfl ?_; refine ol_nil ?_
    rw [decide_eq_false (show ¬ (max (min n m) 0 < ((xs.length : Nat) : Int)) by omega)]
    refine cw_if_f rfl ?_; refine cw_skip ?_; refine cw_seq ?_; refine cw_seq ?_; refine cw_region ?_; refine ol_ev (ev_move rfl) rfl ?_; refine ol_ev (ev_gt rfl rfl) rfl ?_; refine ol_ev (ev_move rfl) rfl ?_
    by_cases h0 : 0 < min n m
    · rw [decide_eq_true h0]
      refine ol_on rfl rfl rfl ?_; refine ol_ev (ev_move rfl) rfl ?_; refine ol_on rfl rfl rfl ?_; refine ol_ev (ev_move rfl) rfl ?_; refine ol_on rfl rfl rfl ?_; refine ol_ev (ev_len_s rfl) rfl ?_; refine ol_on rfl rfl rfl ?_; refine ol_ev (ev_le rfl rfl) rfl ?_; refine ol_ev (ev_pick_t rfl rfl) rfl ?_; refine ol_ev (ev_move rfl) rfl ?_
      by_cases h1 : min n m ≤ ((ts.length : Nat) : Int)
      · rw [decide_eq_true h1]
        refine ol_on rfl rfl rfl ?_; refine ol_ev (ev_move rfl) rfl ?_; refine ol_on rfl rfl rfl ?_; refine ol_ev (ev_len_s rfl) rfl ?_; refine ol_on rfl rfl rfl ?_; refine ol_ev (ev_move rfl) rfl ?_; refine ol_on rfl rfl rfl ?_; refine ol_ev (ev_ne rfl rfl) rfl ?_; refine ol_on rfl rfl rfl ?_; refine ol_ev (ev_move rfl) rfl ?_
        have hex : ex = none := hee (by omega)
        subst hex
        rw [decide_eq_false (show ¬ (((xs.length : Nat) : Int) ≠ min n m) by omega)]
        refine ol_on rfl rfl rfl ?_; refine ol_ev (ev_move rfl) rfl ?_; refine ol_on rfl rfl rfl ?_; refine ol_ev (ev_ne rfl rfl) rfl ?_; refine ol_on rfl rfl rfl ?_; refine ol_ev (ev_pick_f rfl rfl) rfl ?_; refine ol_ev (ev_pick_t rfl rfl) rfl ?_; refine ol_nil ?_; refine cw_if_f rfl ?_; refine cw_skip ?_; refine cw_seq ?_; refine cw_region ?_; (iterate 3 (refine ol_ev (ev_move rfl) rfl ?_)); refine ol_ev (ev_len_s rfl) rfl ?_
        rw [decide_eq_false (show ¬ (codeOf none ≠ 0) by decide)]
        skip
        refine ol_ev (ev_slice_to rfl rfl (by omega) (by omega)) rfl ?_
        rw [show ((xs.length : Nat) : Int).toNat = xs.length by omega]
        skip
        refine ol_call2 (cap := []) (R := []) rfl rfl rfl rfl (same_ct _ _ _ xs (ts.take xs.length) ⟨bgX, cgX, sgX, rfl, m2, hcgX⟩ (StrsAt.take m0 (by omega) (by omega)) (by omega)) (List.Perm.of_eq (List.append_nil _).symm) ?_
        rintro v G9 ⟨rfl, rfl⟩
        rw [decide_eq_true (show xs = ts.take xs.length from hpre.symm)]
        refine OL.nil_app ?_
        refine ol_ev (ev_move rfl) rfl ?_; refine ol_on rfl rfl rfl ?_
        refine ol_ev (ev_loadS (cs := [str text, pv, .bool tog, .bool false]) rfl rfl m5 rfl) rfl ?_
        refine ol_on rfl rfl rfl ?_
        refine ol_ev (ev_loadS (cs := [.int .i64 c, .int .i64 most]) rfl rfl m4 rfl) rfl ?_
        refine ol_on rfl rfl rfl ?_
        refine ol_call2 (G := []) (cap := []) rfl rfl rfl rfl (living_ct hE ps text pv tog c most hpv htl hpl hmost (by omega)) (List.Perm.refl _) ?_
        rintro v G9 rfl
        refine OL.drop ?_
        refine ol_ev (ev_pick_t rfl rfl) rfl ?_; refine ol_ev (ev_assign rfl) rfl ?_; refine ol_nil ?_; refine cw_ret ?_
        exact ⟨_, res1 rfl rfl, rfl⟩
      · rw [decide_eq_false h1]
        (iterate 5 (refine ol_off rfl rfl rfl rfl rfl ?_)); refine ol_offu rfl rfl rfl rfl ?_; refine ol_offu rfl rfl rfl rfl ?_; refine ol_off rfl rfl rfl rfl rfl ?_; refine ol_ev (ev_pick_f rfl rfl) rfl ?_; refine ol_nil ?_; refine cw_if_f rfl ?_; refine cw_skip ?_; refine cw_seq ?_; refine cw_region ?_; (iterate 3 (refine ol_ev (ev_move rfl) rfl ?_)); refine ol_ev (ev_len_s rfl) rfl ?_
        refine ol_ev (ev_slice_to rfl rfl (by omega) (by omega)) rfl ?_
        rw [show ((xs.length : Nat) : Int).toNat = xs.length by omega]
        skip
        refine ol_call2 (cap := []) (R := []) rfl rfl rfl rfl (same_ct _ _ _ xs (ts.take xs.length) ⟨bgX, cgX, sgX, rfl, m2, hcgX⟩ (StrsAt.take m0 (by omega) (by omega)) (by omega)) (List.Perm.of_eq (List.append_nil _).symm) ?_
        rintro v G9 ⟨rfl, rfl⟩
        rw [decide_eq_true (show xs = ts.take xs.length from hpre.symm)]
        refine OL.nil_app ?_
        refine ol_ev (ev_move rfl) rfl ?_; refine ol_on rfl rfl rfl ?_
        refine ol_ev (ev_loadS (cs := [str text, pv, .bool tog, .bool false]) rfl rfl m5 rfl) rfl ?_
        refine ol_on rfl rfl rfl ?_
        refine ol_ev (ev_loadS (cs := [.int .i64 c, .int .i64 most]) rfl rfl m4 rfl) rfl ?_
        refine ol_on rfl rfl rfl ?_
        refine ol_call2 (G := []) (cap := []) rfl rfl rfl rfl (living_ct hE ps text pv tog c most hpv htl hpl hmost (by omega)) (List.Perm.refl _) ?_
        rintro v G9 rfl
        refine OL.drop ?_
        refine ol_ev (ev_pick_t rfl rfl) rfl ?_; refine ol_ev (ev_assign rfl) rfl ?_; refine ol_nil ?_; refine cw_ret ?_
        exact ⟨_, res1 rfl rfl, rfl⟩
    · rw [decide_eq_false h0]
      (iterate 4 (refine ol_off rfl rfl rfl rfl rfl ?_)); refine ol_ev (ev_pick_f rfl rfl) rfl ?_; refine ol_ev (ev_move rfl) rfl ?_; (iterate 5 (refine ol_off rfl rfl rfl rfl rfl ?_)); refine ol_offu rfl rfl rfl rfl ?_; refine ol_offu rfl rfl rfl rfl ?_; refine ol_off rfl rfl rfl rfl rfl ?_; refine ol_ev (ev_pick_f rfl rfl) rfl ?_; refine ol_nil ?_; refine cw_if_f rfl ?_; refine cw_skip ?_; refine cw_seq ?_; refine cw_region ?_; (iterate 3 (refine ol_ev (ev_move rfl) rfl ?_)); refine ol_ev (ev_len_s rfl) rfl ?_
      refine ol_ev (ev_slice_to rfl rfl (by omega) (by omega)) rfl ?_
      rw [show ((xs.length : Nat) : Int).toNat = xs.length by omega]
      skip
      refine ol_call2 (cap := []) (R := []) rfl rfl rfl rfl (same_ct _ _ _ xs (ts.take xs.length) ⟨bgX, cgX, sgX, rfl, m2, hcgX⟩ (StrsAt.take m0 (by omega) (by omega)) (by omega)) (List.Perm.of_eq (List.append_nil _).symm) ?_
      rintro v G9 ⟨rfl, rfl⟩
      rw [decide_eq_true (show xs = ts.take xs.length from hpre.symm)]
      refine OL.nil_app ?_
      refine ol_ev (ev_move rfl) rfl ?_; refine ol_on rfl rfl rfl ?_
      refine ol_ev (ev_loadS (cs := [str text, pv, .bool tog, .bool false]) rfl rfl m5 rfl) rfl ?_
      refine ol_on rfl rfl rfl ?_
      refine ol_ev (ev_loadS (cs := [.int .i64 c, .int .i64 most]) rfl rfl m4 rfl) rfl ?_
      refine ol_on rfl rfl rfl ?_
      refine ol_call2 (G := []) (cap := []) rfl rfl rfl rfl (living_ct hE ps text pv tog c most hpv htl hpl hmost (by omega)) (List.Perm.refl _) ?_
      rintro v G9 rfl
      refine OL.drop ?_
      refine ol_ev (ev_pick_t rfl rfl) rfl ?_; refine ol_ev (ev_assign rfl) rfl ?_; refine ol_nil ?_; refine cw_ret ?_
      exact ⟨_, res1 rfl rfl, rfl⟩
end
end Go.HE
