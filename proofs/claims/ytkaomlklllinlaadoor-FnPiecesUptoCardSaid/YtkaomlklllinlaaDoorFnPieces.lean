/- Two ways of handing a text out, in two rooms, make the same tokens and the same error: the walk. Conditions: those of the contracts. -/
import Derived.Test.YtkaomlklllinlaaDoorLayC
set_option maxRecDepth 100000
set_option maxHeartbeats 4000000
namespace Go.HE
open Go.RowKit Go.Proofs
section
variable {W : World} {E : Nat → Addr}
theorem fnPieces_ct (hE : Errs W E) (hT : Lib.Utf8Tabs 10 11 W) (ps ps2 : List Int) (text : List UInt8) (pv pv2 : Value) (tog brk tog2 : Bool) (c most c2 most2 : Int) (b : Bs) (lv : Value) (ls : List Ly) (hls : LaysAt W [] lv ls) (hll : ls.length ≤ 1099511627776) (hln : ∀ l ∈ ls, l.n ≤ 9223372036854775807) (hxl : b.x.length ≤ 549755813888) (hpv : Pcs W pv ps) (hpv2 : Pcs W pv2 ps2) (htl : text.length ≤ 549755813888) (hpl : ps.length ≤ 4611686018427387904) (hpl2 : ps2.length ≤ 4611686018427387904) (hmost : most ≤ 9223372036854775807) (hmost2 : most2 ≤ 9223372036854775807) :
    Ct Tryd.prog W 10 #[.agg #[str text, pv, .bool tog, .bool brk], pv2, .bool tog2, .agg #[.int .i64 c, .int .i64 most], .agg #[.int .i64 c2, .int .i64 most2], .agg b.cells.toArray, lv] [] (fun v _ => v = .bool true) := by
  obtain ⟨ts, err, hb⟩ := base_ex sepOf_ne b text
  have htn := hb.len sepOf_ne
  obtain ⟨xs, ex, q⟩ : ∃ xs ex, laysT ls ts err = (xs, ex) := ⟨_, _, rfl⟩
  have hxlen : xs.length ≤ ts.length := by have := (laysT_ok ls ts err hb.okE).2; rw [q] at this; exact this
  have hpv2' := hpv2
  obtain ⟨pa2, pc2, rfl, _⟩ := hpv2'
  refine ct_of_cw (vs := [_, _, _, _, _, _, _]) Tryd.func10 rfl rfl fun w1 => ?_
  refine cw_seq ?_; refine cw_region ?_
  refine ol_box rfl rfl fun b0 => ?_
  refine ol_box rfl rfl fun b1 => ?_
  refine ol_box rfl rfl fun b3 => ?_
  refine ol_box rfl rfl fun b2 => ?_
  refine ol_ev (ev_assign rfl) rfl ?_; refine ol_nil ?_; refine cw_seq ?_; refine cw_seq ?_
  refine cw_float [(0, false), (1, false), (2, false), (3, false), (4, false), (5, true), (6, false), (7, false), (8, false), (9, false), (10, false), (11, false), (12, false), (13, true), (14, false), (15, false), (16, false), (17, false), (18, false), (19, false)] [(b2, ⟨(Value.agg b.cells.toArray).cells.toList, 28, (0, 0)⟩), (b3, ⟨[.int .i64 c2, .int .i64 most2], 26, (0, 0)⟩), (b1, ⟨[.int .i64 c, .int .i64 most], 26, (0, 0)⟩), (b0, ⟨[str text, pv, .bool tog, .bool brk], 24, (0, 0)⟩)] mixed (by kernel_rfl) (List.Sublist.refl _) (fun _ _ _ h => h) (fun _ _ h => h) ?_
  refine fl_ev rfl (ev_fld rfl) rfl ?_; refine fl_ev rfl (ev_load rfl m3 rfl) rfl ?_; refine fl_ev rfl (ev_len_str rfl) rfl ?_; (refine fl_ev rfl (ev_add rfl rfl ?_) rfl ?_; (constructor <;> omega))
  refine fl_ev rfl (ev_loadS (cs := [.int .i64 c, .int .i64 most]) rfl rfl m2 rfl) rfl ?_
  refine fl_x rfl ?_
  refine ol_call1 (G := []) (cap := []) rfl rfl rfl (limit_ct c most) (List.Perm.refl _) ?_
  rintro v G' rfl
  refine OL.drop ?_
  refine ol_nil ⟨sub_refl, ?_⟩
  refine fl_ev rfl (ev_ge rfl rfl) rfl ?_; refine fl_ev rfl (ev_move rfl) rfl ?_
  by_cases hlim : limitOf c most ≤ ((text.length : Nat) : Int) + 1
  · rw [decide_eq_true hlim]
    (iterate 5 (refine fl_off rfl rfl rfl rfl rfl rfl ?_))
    refine fl_x rfl ?_
    refine ol_off rfl rfl rfl rfl rfl ?_
    refine ol_nil ⟨sub_refl, ?_⟩
    refine fl_off rfl rfl rfl rfl rfl rfl ?_; refine fl_ev rfl (ev_pick_t rfl rfl) rfl ?_; refine fl_ev rfl (ev_move rfl) rfl ?_; refine fl_off rfl rfl rfl rfl rfl rfl ?_; refine fl_off rfl rfl rfl rfl rfl rfl ?_; refine fl_ev rfl (ev_pick_t rfl rfl) rfl ?_
    refine fl_nil ?_
    refine cw_if_t rfl ?_; refine cw_seq ?_; refine cw_region ?_; refine ol_ev (ev_assign rfl) rfl ?_; refine ol_nil ?_; refine cw_ret ?_
    exact ⟨_, res1 rfl rfl, rfl⟩
  rw [decide_eq_false hlim]
  refine fl_ev_on rfl rfl rfl (ev_fld rfl) rfl rfl ?_; refine fl_ev_on rfl rfl rfl (ev_load rfl m3 rfl) rfl rfl ?_; refine fl_ev_on rfl rfl rfl (ev_len_str rfl) rfl rfl ?_
  refine fl_ev_on rfl rfl rfl (ev_add rfl rfl ⟨by omega, by omega⟩) rfl rfl ?_
  refine fl_ev_on rfl rfl rfl (ev_loadS (cs := [.int .i64 c2, .int .i64 most2]) rfl rfl m1 rfl) rfl rfl ?_
  refine fl_x rfl ?_
  refine ol_on rfl rfl rfl ?_
  refine ol_call1 (G := []) (cap := []) rfl rfl rfl (limit_ct c2 most2) (List.Perm.refl _) ?_
  rintro v G' rfl
  refine OL.drop ?_
  refine ol_nil ⟨sub_refl, ?_⟩
  refine fl_ev_on rfl rfl rfl (ev_ge rfl rfl) rfl rfl ?_; refine fl_ev rfl (ev_pick_f rfl rfl) rfl ?_; refine fl_ev rfl (ev_move rfl) rfl ?_
  by_cases hlim2 : limitOf c2 most2 ≤ ((text.length : Nat) : Int) + 1
  · rw [decide_eq_true hlim2]
    refine fl_off rfl rfl rfl rfl rfl rfl ?_; refine fl_off rfl rfl rfl rfl rfl rfl ?_; refine fl_ev rfl (ev_pick_t rfl rfl) rfl ?_
    refine fl_nil ?_
    refine cw_if_t rfl ?_; refine cw_seq ?_; refine cw_region ?_; refine ol_ev (ev_assign rfl) rfl ?_; refine ol_nil ?_; refine cw_ret ?_
    exact ⟨_, res1 rfl rfl, rfl⟩
  rw [decide_eq_false hlim2]
  cases brk with
  | true =>
    refine fl_ev_on rfl rfl rfl (ev_fld rfl) rfl rfl ?_; refine fl_ev_on rfl rfl rfl (ev_load rfl m3 rfl) rfl rfl ?_; refine fl_ev rfl (ev_pick_f rfl rfl) rfl ?_
    refine fl_nil ?_
    refine cw_if_t rfl ?_; refine cw_seq ?_; refine cw_region ?_; refine ol_ev (ev_assign rfl) rfl ?_; refine ol_nil ?_; refine cw_ret ?_
    exact ⟨_, res1 rfl rfl, rfl⟩
  | false =>
    refine fl_ev_on rfl rfl rfl (ev_fld rfl) rfl rfl ?_; refine fl_ev_on rfl rfl rfl (ev_load rfl m3 rfl) rfl rfl ?_; refine fl_ev rfl (ev_pick_f rfl rfl) rfl ?_
    refine fl_nil ?_
    refine cw_if_f rfl ?_; refine cw_skip ?_; refine cw_seq ?_; refine cw_region ?_
    refine ol_ev (ev_loadS (cs := [str text, pv, .bool tog, .bool false]) rfl rfl m3 rfl) rfl ?_
    refine ol_ev (ev_loadS (cs := [.int .i64 c, .int .i64 most]) rfl rfl m2 rfl) rfl ?_
    refine ol_ev (ev_loadS (cs := b.cells) rfl rfl m0 rfl) rfl ?_
    refine ol_ev (ev_move rfl) rfl ?_
    have cX := Layered_ct hE hT ps text pv tog c most b hxl [] _ ls hls hll hln hpv htl hpl hmost (by omega) ts err hb
    rw [q] at cX
    simp only at cX
    refine ol_call4 (G := []) (cap := []) rfl rfl rfl rfl rfl rfl cX (List.Perm.refl _) ?_
    rintro v GX ⟨uX, rfl, ⟨bgX, cgX, sgX, rfl, hgX, hcgX⟩⟩
    refine OL.keep hgX ?_
    refine ol_ev (ev_move rfl) rfl ?_; refine ol_ev (ev_extract rfl rfl) rfl ?_; refine ol_ev (ev_extract rfl rfl) rfl ?_; refine ol_ev (ev_assign rfl) rfl ?_; refine ol_ev (ev_assign rfl) rfl ?_; refine ol_nil ?_; refine cw_seq ?_; refine cw_region ?_; refine ol_ev (ev_fld rfl) rfl ?_; refine ol_ev (ev_load rfl m4 rfl) rfl ?_; refine ol_ev (ev_move rfl) rfl ?_; refine ol_ev (ev_move rfl) rfl ?_
    refine ol_ev (ev_build3 rfl rfl rfl rfl) rfl ?_
    refine ol_ev (ev_loadS (cs := [.int .i64 c2, .int .i64 most2]) rfl rfl m2 rfl) rfl ?_
    refine ol_ev (ev_loadS (cs := b.cells) rfl rfl m1 rfl) rfl ?_
    refine ol_ev (ev_move rfl) rfl ?_
    have cY := Layered_ct hE hT ps2 text _ tog2 c2 most2 b hxl [] _ ls hls hll hln hpv2 htl hpl2 hmost2 (by omega) ts err hb
    rw [q] at cY
    simp only at cY
    refine ol_call4 (G := []) (cap := []) rfl rfl rfl rfl rfl rfl cY (List.Perm.refl _) ?_
    rintro v GY ⟨uY, rfl, ⟨bgY, cgY, sgY, rfl, hgY, hcgY⟩⟩
    refine OL.keep hgY ?_
    refine ol_ev (ev_move rfl) rfl ?_; refine ol_ev (ev_extract rfl rfl) rfl ?_; refine ol_ev (ev_extract rfl rfl) rfl ?_; refine ol_ev (ev_assign rfl) rfl ?_; refine ol_ev (ev_assign rfl) rfl ?_; refine ol_nil ?_; refine cw_seq ?_; refine cw_region ?_; refine ol_ev (ev_move rfl) rfl ?_; refine ol_ev (ev_move rfl) rfl ?_
    refine ol_call2 (cap := []) (R := []) rfl rfl rfl rfl (same_ct _ _ _ (xs) (xs) ⟨bgX, cgX, sgX, rfl, m1, hcgX⟩ ⟨bgY, cgY, sgY, rfl, m0, hcgY⟩ (by omega)) (List.Perm.of_eq (List.append_nil _).symm) ?_
    rintro v G9 ⟨rfl, rfl⟩
    rw [decide_eq_true (show xs = xs from rfl)]
    refine OL.nil_app ?_
    refine ol_ev (ev_move rfl) rfl ?_; refine ol_on rfl rfl rfl ?_; refine ol_ev (ev_move rfl) rfl ?_; refine ol_on rfl rfl rfl ?_; refine ol_ev (ev_move rfl) rfl ?_; refine ol_on rfl rfl rfl ?_; refine ol_ev (ev_eq rfl rfl) rfl ?_; refine ol_ev (ev_pick_t rfl rfl) rfl ?_; refine ol_ev (ev_move rfl) rfl ?_
    rw [decide_eq_true (show codeOf ex = codeOf ex from rfl)]
    refine ol_on rfl rfl rfl ?_
    refine ol_ev (ev_loadS (cs := [str text, pv, .bool tog, .bool false]) rfl rfl m5 rfl) rfl ?_
    refine ol_on rfl rfl rfl ?_
    refine ol_ev (ev_loadS (cs := [.int .i64 c, .int .i64 most]) rfl rfl m4 rfl) rfl ?_
    refine ol_on rfl rfl rfl ?_
    refine ol_call2 (G := []) (cap := []) rfl rfl rfl rfl (living_ct hE ps text pv tog c most hpv htl hpl hmost (by omega)) (List.Perm.refl _) ?_
    rintro v G9 rfl
    refine OL.drop ?_
    refine ol_ev (ev_pick_t rfl rfl) rfl ?_; refine ol_ev (ev_assign rfl) rfl ?_; refine ol_nil ?_; refine cw_ret ?_
    exact ⟨_, res1 rfl rfl, rfl⟩
end
end Go.HE
