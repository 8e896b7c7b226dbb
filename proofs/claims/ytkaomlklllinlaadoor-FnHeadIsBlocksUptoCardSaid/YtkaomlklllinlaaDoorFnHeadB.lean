/- The first n bytes of each part are its first block of n bytes, or nothing: the walk. Conditions: those of the contracts. -/
import Derived.Test.YtkaomlklllinlaaDoorLayC
import Derived.Test.YtkaomlklllinlaaDoorBlocks
set_option maxRecDepth 100000
set_option maxHeartbeats 4000000
namespace Go.HE
open Go.RowKit Go.Proofs
instance : TRow Tryd.prog 28 (.agg #[.int .i64 0, .int .i64 0, .string ⟨#[]⟩, .int .u8 0, .int .u8 0]) [(0, 1), (1, 1), (2, 1), (3, 1), (4, 1)] := ⟨by kernel_rfl, by kernel_rfl⟩
section
variable {W : World} {E : Nat → Addr}
theorem fnHeadIsBlocks_ct (hE : Errs W E) (hT : Lib.Utf8Tabs 10 11 W) (ps : List Int) (text : List UInt8) (pv : Value) (tog brk : Bool) (c most : Int) (sep : List UInt8) (n : Nat) (hn : n ≤ 255) (hsl : sep.length ≤ 274877906944) (hpv : Pcs W pv ps) (htl : text.length ≤ 274877906944) (hpl : ps.length ≤ 4611686018427387904) (hmost : most ≤ 9223372036854775807) :
    Ct Tryd.prog W 5 #[.agg #[str text, pv, .bool tog, .bool brk], .agg #[.int .i64 c, .int .i64 most], str sep, .int .u8 (n : Int)] [] (fun v _ => v = .bool true) := by
  obtain ⟨ts, hpt⟩ := parts_ex (sepOf_ne sep) _ text rfl
  have hb : BaseOf sepOf (⟨4, 0, sep, 0, 0⟩ : Bs) text ts none := by unfold BaseOf; rw [if_neg (by simp), if_neg (by simp), if_pos rfl]; exact ⟨hpt, rfl⟩
  have htn := hb.len sepOf_ne
  have htp := hpt.pos
  have hsp := sepOf_len sep
  have qX : laysT [(⟨5, ((n + 1 : Nat) : Int), []⟩ : Ly)] ts none = (ts.map (fun t => t.take (n + 1)), none) := by simp [laysT, Ly.toks, Ly.err]
  have hxlen : (ts.map (fun t => t.take (n + 1))).length = ts.length := by simp
  generalize hxs : ts.map (fun t => t.take (n + 1)) = xs at qX hxlen
  refine ct_of_cw (vs := [_, _, _, _]) Tryd.func5 rfl rfl fun w1 => ?_
  refine cw_seq ?_; refine cw_region ?_
  refine ol_box rfl rfl fun b0 => ?_
  refine ol_box rfl rfl fun b1 => ?_
  refine ol_ev (ev_assign rfl) rfl ?_; refine ol_nil ?_; refine cw_seq ?_; refine cw_seq ?_
  refine cw_float [(0, false), (1, false), (2, false), (3, false), (8, false), (4, true), (5, false), (6, false), (7, false), (9, true), (10, false), (11, false), (12, false), (13, false), (14, false)] [(b1, ⟨[.int .i64 c, .int .i64 most], 26, (0, 0)⟩), (b0, ⟨[str text, pv, .bool tog, .bool brk], 24, (0, 0)⟩)] mixed (by kernel_rfl) (List.Sublist.refl _) (fun _ _ _ h => h) (fun _ _ h => h) ?_
  refine fl_ev rfl (ev_fld rfl) rfl ?_; refine fl_ev rfl (ev_load rfl m1 rfl) rfl ?_; refine fl_ev rfl (ev_len_str rfl) rfl ?_; refine fl_ev rfl (ev_move rfl) rfl ?_
  refine fl_ev rfl (ev_loadS (cs := [.int .i64 c, .int .i64 most]) rfl rfl m0 rfl) rfl ?_
  refine fl_x rfl ?_
  refine ol_call1 (G := []) (cap := []) rfl rfl rfl (separated_ct sep) (List.Perm.refl _) ?_
  rintro v G' ⟨rfl, rfl⟩
  refine OL.drop ?_
  refine ol_nil ⟨sub_refl, ?_⟩
  refine fl_ev rfl (ev_len_str rfl) rfl ?_; (refine fl_ev rfl (ev_add rfl rfl ?_) rfl ?_; (constructor <;> omega)); (refine fl_ev rfl (ev_add rfl rfl ?_) rfl ?_; (constructor <;> omega))
  refine fl_x rfl ?_
  refine ol_call1 (G := []) (cap := []) rfl rfl rfl (limit_ct c most) (List.Perm.refl _) ?_
  rintro v G' rfl
  refine OL.drop ?_
  refine ol_nil ⟨sub_refl, ?_⟩
  refine fl_ev rfl (ev_ge rfl rfl) rfl ?_; refine fl_ev rfl (ev_move rfl) rfl ?_
  by_cases hlim : limitOf c most ≤ ((text.length : Nat) : Int) + (((sepOf sep).length : Nat) : Int) + 1
  · rw [decide_eq_true hlim]
    refine fl_off rfl rfl rfl rfl rfl rfl ?_; refine fl_off rfl rfl rfl rfl rfl rfl ?_; refine fl_ev rfl (ev_pick_t rfl rfl) rfl ?_
    refine fl_nil ?_
    refine cw_if_t rfl ?_; refine cw_seq ?_; refine cw_region ?_; refine ol_ev (ev_assign rfl) rfl ?_; refine ol_nil ?_; refine cw_ret ?_
    exact ⟨_, res1 rfl rfl, rfl⟩
  rw [decide_eq_false hlim]
  cases brk with
  | true =>
    refine fl_ev_on rfl rfl rfl (ev_fld rfl) rfl rfl ?_; refine fl_ev_on rfl rfl rfl (ev_load rfl m1 rfl) rfl rfl ?_; refine fl_ev rfl (ev_pick_f rfl rfl) rfl ?_
    refine fl_nil ?_
    refine cw_if_t rfl ?_; refine cw_seq ?_; refine cw_region ?_; refine ol_ev (ev_assign rfl) rfl ?_; refine ol_nil ?_; refine cw_ret ?_
    exact ⟨_, res1 rfl rfl, rfl⟩
  | false =>
    refine fl_ev_on rfl rfl rfl (ev_fld rfl) rfl rfl ?_; refine fl_ev_on rfl rfl rfl (ev_load rfl m1 rfl) rfl rfl ?_; refine fl_ev rfl (ev_pick_f rfl rfl) rfl ?_
    refine fl_nil ?_
    refine cw_if_f rfl ?_; refine cw_skip ?_; refine cw_seq ?_; refine cw_region ?_; refine ol_ev (ev_move rfl) rfl ?_
    refine ol_ev (ev_conv_int (m := (n : Int)) rfl (wrap_i64 ⟨by omega, by omega⟩)) rfl ?_
    (refine ol_ev (ev_add rfl rfl ?_) rfl ?_; (constructor <;> omega)); refine ol_ev (ev_assign rfl) rfl ?_; refine ol_nil ?_; refine cw_seq ?_; refine cw_region ?_
    rw [show (n : Int) + 1 = ((n + 1 : Nat) : Int) by omega]
    skip
    refine ol_ev (ev_loadS (cs := [str text, pv, .bool tog, .bool false]) rfl rfl m1 rfl) rfl ?_
    refine ol_ev (ev_loadS (cs := [.int .i64 c, .int .i64 most]) rfl rfl m0 rfl) rfl ?_
    refine ol_ev (ev_move rfl) rfl ?_
    refine ol_call3 (G := []) (cap := []) rfl rfl rfl rfl rfl (parts_ct hE ps text sep pv tog c most ts none hpv (by omega) (by omega) hpl hmost (by omega) (prun hpt fun t ht => by have := hpt.tok_le t ht; omega) (by simp) (by omega)) (List.Perm.refl _) ?_
    rintro v GA ⟨uA, rfl, ⟨bgA, cgA, sgA, rfl, hgA, hcgA⟩⟩
    refine OL.keep hgA ?_
    refine ol_ev (ev_move rfl) rfl ?_; refine ol_ev (ev_extract rfl rfl) rfl ?_; refine ol_ev (ev_extract rfl rfl) rfl ?_; refine ol_ev (ev_assign rfl) rfl ?_; refine ol_ev (ev_assign rfl) rfl ?_; refine ol_nil ?_; refine cw_seq ?_; refine cw_region ?_
    refine ol_ev (ev_loadS (cs := [str text, pv, .bool tog, .bool false]) rfl rfl m2 rfl) rfl ?_
    refine ol_ev (ev_loadS (cs := [.int .i64 c, .int .i64 most]) rfl rfl m1 rfl) rfl ?_
    refine ol_ev (ev_move rfl) rfl ?_
    refine ol_ev (ev_build2 rfl rfl rfl) rfl ?_
    refine ol_ev (ev_move rfl) rfl ?_
    refine ol_ev (ev_build2 rfl rfl rfl) rfl ?_
    refine ol_lays1 (a := (⟨5, ((n + 1 : Nat) : Int), []⟩ : Ly)) rfl rfl fun lb => ?_
    have cX := Layered_ct hE hT ps text pv tog c most (⟨4, 0, sep, 0, 0⟩ : Bs) (by show sep.length ≤ _; omega) [(lb, laysO [(⟨5, ((n + 1 : Nat) : Int), []⟩ : Ly)])] _ [(⟨5, ((n + 1 : Nat) : Int), []⟩ : Ly)] (laysO_at m0) (by simp) (by simp; omega) hpv (by omega) hpl hmost (by omega) ts none hb
    rw [qX] at cX
    simp only at cX
    refine ol_call4 (G := [(lb, laysO [(⟨5, ((n + 1 : Nat) : Int), []⟩ : Ly)])]) (cap := []) rfl rfl rfl rfl rfl rfl cX (List.Perm.refl _) ?_
    rintro v GX ⟨uX, rfl, ⟨bgX, cgX, sgX, rfl, hgX, hcgX⟩⟩
    refine OL.keep hgX ?_
    refine ol_ev (ev_move rfl) rfl ?_; refine ol_ev (ev_extract rfl rfl) rfl ?_; refine ol_ev (ev_extract rfl rfl) rfl ?_; refine ol_ev (ev_assign rfl) rfl ?_; refine ol_ev (ev_assign rfl) rfl ?_; refine ol_nil ?_; refine cw_seq ?_; refine cw_seq ?_; refine cw_region ?_; refine ol_ev (ev_move rfl) rfl ?_; refine ol_ev (ev_len_s rfl) rfl ?_; refine ol_ev (ev_move rfl) rfl ?_; refine ol_ev (ev_len_s rfl) rfl ?_; refine ol_ev (ev_ne rfl rfl) rfl ?_; refine ol_ev (ev_move rfl) rfl ?_
    rw [decide_eq_false (show ¬ (((xs.length : Nat) : Int) ≠ ((ts.length : Nat) : Int)) by omega)]
    refine ol_on rfl rfl rfl ?_; refine ol_ev (ev_move rfl) rfl ?_; refine ol_on rfl rfl rfl ?_; refine ol_ev (ev_len_s rfl) rfl ?_; refine ol_on rfl rfl rfl ?_; refine ol_ev (ev_eq rfl rfl) rfl ?_; refine ol_ev (ev_pick_f rfl rfl) rfl ?_; refine ol_ev (ev_move rfl) rfl ?_
    rw [decide_eq_false (show ¬ (((xs.length : Nat) : Int) = 0) by omega)]
    refine ol_on rfl rfl rfl ?_; refine ol_ev (ev_move rfl) rfl ?_; refine ol_on rfl rfl rfl ?_; refine ol_ev (ev_ne rfl rfl) rfl ?_; refine ol_ev (ev_pick_f rfl rfl) rfl ?_; refine ol_nil ?_; refine cw_if_f rfl ?_; refine cw_skip ?_; refine cw_seq ?_; refine cw_seq ?_; refine cw_region ?_; refine ol_ev (ev_assign rfl) rfl ?_; refine ol_nil ?_; refine cw_block ?_
    refine cw_loop (σ := Nat) (fun i => [(5, .pointer (some ⟨b1, 0, none⟩)), (9, .int .i64 ((n + 1 : Nat) : Int)), (10, .slice (some ⟨bgA, 0, none⟩) ts.length cgA), (12, .slice (some ⟨bgX, 0, none⟩) xs.length cgX), (14, .int .i64 (i : Int))]) (fun _ => (bgX, strO xs sgX) :: (bgA, strO ts sgA) :: [(b1, ⟨[.int .i64 c, .int .i64 most], 26, (0, 0)⟩), (b0, ⟨[str text, pv, .bool tog, .bool false], 24, (0, 0)⟩)]) (fun i => i ≤ ts.length) (fun i => ts.length - i) 0 (Nat.zero_le _) (fun a ha => ha.weak ⟨rfl, rfl, rfl, rfl, rfl, trivial⟩) rfl ?_
    intro i hi
    refine cw_seq ?_; refine cw_seq ?_; refine cw_region ?_; refine ol_ev (ev_move rfl) rfl ?_; refine ol_ev (ev_move rfl) rfl ?_; refine ol_ev (ev_len_s rfl) rfl ?_; refine ol_ev (ev_lt rfl rfl) rfl ?_; refine ol_nil ?_
    refine cw_ifd rfl (fun h2 => ?_) (fun h2 => ?_)
    · have hx : i < ts.length := by omega
      have hx2 : i < xs.length := by omega
      have htk := hpt.tok_le ts[i] (List.getElem_mem hx)
      obtain ⟨bs, hbs⟩ := blocks_ex (n := n + 1) (by omega) ts[i]
      have hbl := hbs.len (by omega)
      have hfirst : xs[i] = bs.headD [] := by
        have e1 : xs[i] = ts[i].take (n + 1) := by simp [← hxs]
        rw [e1]
        generalize ts[i] = t at hbs
        cases hbs with
        | nil => simp
        | last h0 h1 => simp only [List.headD_cons]; rw [List.take_of_length_le (by omega)]
        | cons h1 _ => simp only [List.headD_cons]; rw [List.take_append_of_le_length (by omega), List.take_of_length_le (by omega)]
      have k1 : (strO ts sgA).cells[0 + ((i : Int)).toNat]? = some (str ts[i]) := strO_cell hx
      have k2 : (strO xs sgX).cells[0 + ((i : Int)).toNat]? = some (str xs[i]) := strO_cell hx2
      refine cw_skip ?_; refine cw_seq ?_; refine cw_block ?_; refine cw_seq ?_
      refine cw_mid 7 mixed (by kernel_rfl) rfl ?_
      refine sl_ev (ev_move rfl) rfl ?_; refine sl_ev (ev_move rfl) rfl ?_
      refine sl_ev (ev_idx1 rfl rfl (by omega) (by omega)) rfl ?_
      refine sl_ev (ev_load rfl m1 k1) rfl ?_
      refine sl_ev (ev_build1 rfl rfl) rfl ?_
      refine sl_ev (ev_loadS (cs := [.int .i64 c, .int .i64 most]) rfl rfl m2 rfl) rfl ?_
      refine sl_ev (ev_move rfl) rfl ?_; refine sl_nil ?_
      refine ol_call3 (G := []) (cap := []) rfl rfl rfl rfl rfl (blocks_ct hE [] ts[i] (.slice none 0 0) false c most ((n + 1 : Nat) : Int) (n + 1) (by omega) bs none ⟨none, 0, rfl, fun i p h => by simp at h⟩ (by omega) (by simp) hmost (by omega) (krun hbs fun t ht => by have := hbs.tok_le ht; omega) (by simp) (by omega)) (List.Perm.refl _) ?_
      rintro v GB ⟨uB, rfl, ⟨bgB, cgB, sgB, rfl, hgB, hcgB⟩⟩
      refine OL.keep hgB ?_
      refine ol_nil ?_
      refine sl_ev (ev_move rfl) rfl ?_; refine sl_ev (ev_extract rfl rfl) rfl ?_; refine sl_ev (ev_extract rfl rfl) rfl ?_; refine sl_ev (ev_assign rfl) rfl ?_; refine sl_ev (ev_assign rfl) rfl ?_; refine sl_nil ?_
      refine cw_seq ?_
      refine cw_region ?_; refine ol_ev (ev_assign rfl) rfl ?_; refine ol_nil ?_
      refine cw_cut (fun l' H' => SubE l' [(5, .pointer (some ⟨b1, 0, none⟩)), (9, .int .i64 ((n + 1 : Nat) : Int)), (10, .slice (some ⟨bgA, 0, none⟩) ts.length cgA), (12, .slice (some ⟨bgX, 0, none⟩) xs.length cgX), (14, .int .i64 (i : Int)), (17, str xs[i])] ∧ H' = (bgB, strO bs sgB) :: (bgX, strO xs sgX) :: (bgA, strO ts sgA) :: [(b1, ⟨[.int .i64 c, .int .i64 most], 26, (0, 0)⟩), (b0, ⟨[str text, pv, .bool tog, .bool false], 24, (0, 0)⟩)]) ?_ ?_
      · refine cw_seq ?_; refine cw_region ?_; refine ol_ev (ev_move rfl) rfl ?_; refine ol_ev (ev_len_s rfl) rfl ?_; refine ol_ev (ev_gt rfl rfl) rfl ?_; refine ol_nil ?_
        cases bs with
        | nil =>
          rw [decide_eq_false (show ¬ (0 : Int) < ((([] : List (List UInt8)).length : Nat) : Int) by simp)]
          refine cw_if_f rfl ?_; refine cw_skip ?_
          refine ⟨⟨rfl, rfl, rfl, rfl, rfl, ?_, trivial⟩, rfl⟩
          rw [hfirst]; rfl
        | cons t r =>
          rw [decide_eq_true (show (0 : Int) < (((t :: r).length : Nat) : Int) by simp)]
          refine cw_if_t rfl ?_; refine cw_region ?_; refine ol_ev (ev_move rfl) rfl ?_
          refine ol_ev (ev_idx1 rfl rfl (by omega) (by simp)) rfl ?_
          refine ol_ev (ev_load rfl m0 (show (strO (t :: r) sgB).cells[0 + (0 : Int).toNat]? = some (str t) from rfl)) rfl ?_
          refine ol_ev (ev_assign rfl) rfl ?_; refine ol_nil ?_
          refine ⟨⟨rfl, rfl, rfl, rfl, rfl, ?_, trivial⟩, rfl⟩
          rw [hfirst]; rfl
      rintro l' H' ⟨hl', rfl⟩
      refine CW.weak hl' ?_
      clear hl'
      refine cw_seq ?_; refine cw_region ?_; refine ol_ev (ev_move rfl) rfl ?_; refine ol_ev (ev_move rfl) rfl ?_
      refine OL.less (List.sublist_cons_self _ _) ?_
      refine ol_ev (ev_idx1 rfl rfl (by omega) (by omega)) rfl ?_
      refine ol_ev (ev_load rfl m0 k2) rfl ?_
      refine ol_ev (ev_move rfl) rfl ?_; refine ol_ev (ev_ne_str rfl rfl) rfl ?_; refine ol_nil ?_
      rw [decide_eq_false (show ¬ (xs[i] ≠ xs[i]) by simp)]
      refine cw_if_f rfl ?_; refine cw_skip ?_; refine cw_region ?_; refine ol_ev (ev_move rfl) rfl ?_; (refine ol_ev (ev_add rfl rfl ?_) rfl ?_; (constructor <;> omega)); refine ol_ev (ev_assign rfl) rfl ?_; refine ol_nil ?_
      exact ⟨i + 1, hx, ⟨rfl, rfl, rfl, rfl, rfl, trivial⟩, rfl, by omega⟩
    · refine cw_exit ?_; refine cw_seq ?_; refine cw_region ?_; refine ol_ev (ev_assign rfl) rfl ?_; refine ol_nil ?_; refine cw_ret ?_
      exact ⟨_, res1 rfl rfl, rfl⟩
end
end Go.HE
