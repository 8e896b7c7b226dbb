/- To stop at a token is to take the ones ahead of it; to fail there tells the same ones, and an error: the walk. Conditions: those of the contracts. -/
import Derived.Test.YtkaomlklllinlaaDoorLayC
import Derived.Test.YtkaomlklllinlaaDoorSpecF
set_option maxRecDepth 100000
set_option maxHeartbeats 4000000
namespace Go.HE
open Go.RowKit Go.Proofs
theorem takeWhile_all {p : List UInt8 → Bool} : ∀ l : List (List UInt8), (∀ t ∈ l, p t = true) → l.takeWhile p = l
  | [], _ => rfl
  | a :: l, h => by rw [List.takeWhile_cons, if_pos (h a List.mem_cons_self), takeWhile_all l fun t ht => h t (List.mem_cons_of_mem _ ht)]
theorem find_none {x : List UInt8} {ts : List (List UInt8)} (h : findI x ts < 0) : untilT x ts = ts ∧ (∀ f e, untilE x ts f e = e) := by
  have hn : ts.findIdx? (fun t => decide (t = x)) = none := by
    cases hf : ts.findIdx? (fun t => decide (t = x)) with
    | none => rfl
    | some i => unfold findI at h; rw [hf] at h; simp only at h; omega
  rw [List.findIdx?_eq_none_iff] at hn
  have hx : x ∉ ts := fun hm => by have := hn x hm; simp at this
  refine ⟨?_, fun f e => by unfold untilE; rw [if_neg hx]⟩
  exact takeWhile_all ts fun t ht => by have := hn t ht; simpa using this
theorem find_some {x : List UInt8} {ts : List (List UInt8)} (h : ¬ findI x ts < 0) : (findI x ts).toNat < ts.length ∧ untilT x ts = ts.take (findI x ts).toNat ∧ x ∈ ts ∧ ((findI x ts).toNat : Int) = findI x ts := by
  cases hf : ts.findIdx? (fun t => decide (t = x)) with
  | none => unfold findI at h; rw [hf] at h; simp only at h; omega
  | some i =>
    have hk : findI x ts = (i : Int) := by unfold findI; rw [hf]
    obtain ⟨h1, h2, h3⟩ := List.findIdx?_eq_some_iff_getElem.1 hf
    have hi : ts[i] = x := of_decide_eq_true h2
    rw [hk, show ((i : Int)).toNat = i by omega]
    refine ⟨h1, ?_, by rw [← hi]; exact List.getElem_mem h1, rfl⟩
    unfold untilT
    have hsplit : ts = ts.take i ++ x :: ts.drop (i + 1) := by
      conv => lhs; rw [← List.take_append_drop i ts, List.drop_eq_getElem_cons h1, hi]
    conv => lhs; rw [hsplit]
    rw [List.takeWhile_append_of_pos (fun t ht => by
      obtain ⟨j, hj, rfl⟩ := List.getElem_of_mem ht
      rw [List.length_take] at hj
      rw [List.getElem_take]
      have := h3 j (by omega)
      simpa using this)]
    simp
section
variable {W : World} {E : Nat → Addr}
theorem fnStopIsTake_ct (hE : Errs W E) (hT : Lib.Utf8Tabs 10 11 W) (ps : List Int) (text : List UInt8) (pv : Value) (tog brk : Bool) (c most : Int) (b : Bs) (x : List UInt8) (hxl : b.x.length ≤ 549755813888) (hpv : Pcs W pv ps) (htl : text.length ≤ 549755813888) (hpl : ps.length ≤ 4611686018427387904) (hmost : most ≤ 9223372036854775807) :
    Ct Tryd.prog W 11 #[.agg #[str text, pv, .bool tog, .bool brk], .agg #[.int .i64 c, .int .i64 most], .agg b.cells.toArray, str x] [] (fun v _ => v = .bool true) := by
  obtain ⟨ts, err, hb⟩ := base_ex sepOf_ne b text
  have htn := hb.len sepOf_ne
  have qA : laysT [] ts err = (ts, err) := by rfl
  have qX : laysT [(⟨2, 0, x⟩ : Ly)] ts err = (untilT x ts, untilE x ts false err) := by rfl
  have qY : laysT [(⟨3, 0, x⟩ : Ly)] ts err = (untilT x ts, untilE x ts true err) := by rfl
  have qZ : laysT [(⟨1, findI x ts, []⟩ : Ly)] ts err = (ts.take (findI x ts).toNat, takeE (findI x ts) ts err) := by rfl
  have hno := find_none (x := x) (ts := ts)
  have hso := find_some (x := x) (ts := ts)
  have hxlen : (untilT x ts).length ≤ ts.length := (List.takeWhile_sublist _).length_le
  generalize heX : untilE x ts false err = eX at qX
  generalize heY : untilE x ts true err = eY at qY
  generalize heZ : takeE (findI x ts) ts err = eZ at qZ
  generalize hk0 : findI x ts = k at hno hso qZ heZ
  generalize untilT x ts = xs at qX qY hno hso hxlen
  refine ct_of_cw (vs := [_, _, _, _]) Tryd.func11 rfl rfl fun w1 => ?_
  refine cw_seq ?_; refine cw_region ?_
  refine ol_box rfl rfl fun b0 => ?_
  refine ol_box rfl rfl fun b1 => ?_
  refine ol_box rfl rfl fun b2 => ?_
  refine ol_ev (ev_assign rfl) rfl ?_; refine ol_nil ?_; refine cw_seq ?_; refine cw_seq ?_
  refine cw_float [(0, false), (1, false), (2, false), (3, false), (4, false), (5, true), (6, false), (7, false), (8, false), (9, false), (10, false)] [(b2, ⟨(Value.agg b.cells.toArray).cells.toList, 28, (0, 0)⟩), (b1, ⟨[.int .i64 c, .int .i64 most], 26, (0, 0)⟩), (b0, ⟨[str text, pv, .bool tog, .bool brk], 24, (0, 0)⟩)] mixed (by kernel_rfl) (List.Sublist.refl _) (fun _ _ _ h => h) (fun _ _ h => h) ?_
  refine fl_ev rfl (ev_fld rfl) rfl ?_; refine fl_ev rfl (ev_load rfl m2 rfl) rfl ?_; refine fl_ev rfl (ev_len_str rfl) rfl ?_; (refine fl_ev rfl (ev_add rfl rfl ?_) rfl ?_; (constructor <;> omega))
  refine fl_ev rfl (ev_loadS (cs := [.int .i64 c, .int .i64 most]) rfl rfl m1 rfl) rfl ?_
  refine fl_x rfl ?_
  refine ol_call1 (G := []) (cap := []) rfl rfl rfl (limit_ct c most) (List.Perm.refl _) ?_
  rintro v G' rfl
  refine OL.drop ?_
  refine ol_nil ⟨sub_refl, ?_⟩
  refine fl_ev rfl (ev_ge rfl rfl) rfl ?_; refine fl_ev rfl (ev_move rfl) rfl ?_
  by_cases hlim : limitOf c most ≤ ((text.length : Nat) : Int) + 1
  · rw [decide_eq_true hlim]
    refine fl_off rfl rfl rfl rfl rfl rfl ?_; refine fl_off rfl rfl rfl rfl rfl rfl ?_; refine fl_ev rfl (ev_pick_t rfl rfl) rfl ?_
    refine fl_nil ?_
    refine cw_if_t rfl ?_; refine cw_seq ?_; refine cw_region ?_; refine ol_ev (ev_assign rfl) rfl ?_; refine ol_nil ?_; refine cw_ret ?_
    exact ⟨_, res1 rfl rfl, rfl⟩
  rw [decide_eq_false hlim]
  cases brk with
  | true =>
    refine fl_ev_on rfl rfl rfl (ev_fld rfl) rfl rfl ?_; refine fl_ev_on rfl rfl rfl (ev_load rfl m2 rfl) rfl rfl ?_; refine fl_ev rfl (ev_pick_f rfl rfl) rfl ?_
    refine fl_nil ?_
    refine cw_if_t rfl ?_; refine cw_seq ?_; refine cw_region ?_; refine ol_ev (ev_assign rfl) rfl ?_; refine ol_nil ?_; refine cw_ret ?_
    exact ⟨_, res1 rfl rfl, rfl⟩
  | false =>
    refine fl_ev_on rfl rfl rfl (ev_fld rfl) rfl rfl ?_; refine fl_ev_on rfl rfl rfl (ev_load rfl m2 rfl) rfl rfl ?_; refine fl_ev rfl (ev_pick_f rfl rfl) rfl ?_
    refine fl_nil ?_
    refine cw_if_f rfl ?_; refine cw_skip ?_; refine cw_seq ?_; refine cw_region ?_
    refine ol_ev (ev_loadS (cs := [str text, pv, .bool tog, .bool false]) rfl rfl m2 rfl) rfl ?_
    refine ol_ev (ev_loadS (cs := [.int .i64 c, .int .i64 most]) rfl rfl m1 rfl) rfl ?_
    refine ol_ev (ev_loadS (cs := b.cells) rfl rfl m0 rfl) rfl ?_
    have cA := Layered_ct hE hT ps text pv tog c most b hxl [] _ [] lays_nil (by simp) (by simp) hpv htl hpl hmost (by omega) ts err hb
    rw [qA] at cA
    simp only at cA
    refine ol_call4 (G := []) (cap := []) rfl rfl rfl rfl rfl rfl cA (List.Perm.refl _) ?_
    rintro v GA ⟨uA, rfl, ⟨bgA, cgA, sgA, rfl, hgA, hcgA⟩⟩
    refine OL.keep hgA ?_
    refine ol_ev (ev_move rfl) rfl ?_; refine ol_ev (ev_extract rfl rfl) rfl ?_; refine ol_ev (ev_extract rfl rfl) rfl ?_; refine ol_ev (ev_assign rfl) rfl ?_; refine ol_ev (ev_assign rfl) rfl ?_; refine ol_nil ?_; refine cw_seq ?_; refine cw_region ?_; refine ol_ev (ev_move rfl) rfl ?_
    refine ol_ev (ev_build1 rfl rfl) rfl ?_
    refine ol_ev (ev_move rfl) rfl ?_
    have cF := specFind_ct (W := W) ((bgA, strO ts sgA) :: [(b2, ⟨(Value.agg b.cells.toArray).cells.toList, 28, (0, 0)⟩), (b1, ⟨[.int .i64 c, .int .i64 most], 26, (0, 0)⟩), (b0, ⟨[str text, pv, .bool tog, .bool false], 24, (0, 0)⟩)]) bgA cgA sgA ts 0 x m0 (by omega)
    rw [hk0] at cF
    refine ol_call2 (R := []) (cap := []) rfl rfl rfl rfl cF (List.Perm.of_eq (List.append_nil _).symm) ?_
    rintro v GF ⟨rfl, NF, rfl⟩
    refine OL.nil_app ?_
    refine OL.drop ?_
    refine ol_ev (ev_assign rfl) rfl ?_; refine ol_nil ?_; refine cw_seq ?_; refine cw_region ?_
    refine ol_ev (ev_loadS (cs := [str text, pv, .bool tog, .bool false]) rfl rfl m3 rfl) rfl ?_
    refine ol_ev (ev_loadS (cs := [.int .i64 c, .int .i64 most]) rfl rfl m2 rfl) rfl ?_
    refine ol_ev (ev_loadS (cs := b.cells) rfl rfl m1 rfl) rfl ?_
    refine ol_ev (ev_move rfl) rfl ?_
    refine ol_ev (ev_build2 rfl rfl rfl) rfl ?_
    refine ol_lays1 (a := (⟨2, 0, x⟩ : Ly)) rfl rfl fun lb => ?_
    have cX := Layered_ct hE hT ps text pv tog c most b hxl [(lb, laysO [(⟨2, 0, x⟩ : Ly)])] _ [(⟨2, 0, x⟩ : Ly)] (laysO_at m0) (by simp) (by simp) hpv htl hpl hmost (by omega) ts err hb
    rw [qX] at cX
    simp only at cX
    refine ol_call4 (G := [(lb, laysO [(⟨2, 0, x⟩ : Ly)])]) (cap := []) rfl rfl rfl rfl rfl rfl cX (List.Perm.refl _) ?_
    rintro v GX ⟨uX, rfl, ⟨bgX, cgX, sgX, rfl, hgX, hcgX⟩⟩
    refine OL.keep hgX ?_
    refine ol_ev (ev_move rfl) rfl ?_; refine ol_ev (ev_extract rfl rfl) rfl ?_; refine ol_ev (ev_extract rfl rfl) rfl ?_; refine ol_ev (ev_assign rfl) rfl ?_; refine ol_ev (ev_assign rfl) rfl ?_; refine ol_nil ?_; refine cw_seq ?_; refine cw_region ?_
    refine ol_ev (ev_loadS (cs := [str text, pv, .bool tog, .bool false]) rfl rfl m4 rfl) rfl ?_
    refine ol_ev (ev_loadS (cs := [.int .i64 c, .int .i64 most]) rfl rfl m3 rfl) rfl ?_
    refine ol_ev (ev_loadS (cs := b.cells) rfl rfl m2 rfl) rfl ?_
    refine ol_ev (ev_move rfl) rfl ?_
    refine ol_ev (ev_build2 rfl rfl rfl) rfl ?_
    refine ol_lays1 (a := (⟨3, 0, x⟩ : Ly)) rfl rfl fun lc => ?_
    have cY := Layered_ct hE hT ps text pv tog c most b hxl [(lc, laysO [(⟨3, 0, x⟩ : Ly)])] _ [(⟨3, 0, x⟩ : Ly)] (laysO_at m0) (by simp) (by simp) hpv htl hpl hmost (by omega) ts err hb
    rw [qY] at cY
    simp only at cY
    refine ol_call4 (G := [(lc, laysO [(⟨3, 0, x⟩ : Ly)])]) (cap := []) rfl rfl rfl rfl rfl rfl cY (List.Perm.refl _) ?_
    rintro v GY ⟨uY, rfl, ⟨bgY, cgY, sgY, rfl, hgY, hcgY⟩⟩
    refine OL.keep hgY ?_
    refine ol_ev (ev_move rfl) rfl ?_; refine ol_ev (ev_extract rfl rfl) rfl ?_; refine ol_ev (ev_extract rfl rfl) rfl ?_; refine ol_ev (ev_assign rfl) rfl ?_; refine ol_ev (ev_assign rfl) rfl ?_; refine ol_nil ?_; refine cw_seq ?_; refine cw_seq ?_; refine cw_region ?_; refine ol_ev (ev_move rfl) rfl ?_; refine ol_ev (ev_lt rfl rfl) rfl ?_; refine ol_nil ?_
    refine cw_ifd rfl (fun h0 => ?_) (fun h0 => ?_)
    · obtain ⟨hxs, hxe⟩ := hno h0
      subst hxs
      have hX : eX = err := by rw [← heX]; exact hxe _ _
      have hY : eY = err := by rw [← heY]; exact hxe _ _
      subst hX hY
      refine cw_seq ?_; refine cw_region ?_; refine ol_ev (ev_move rfl) rfl ?_; refine ol_ev (ev_move rfl) rfl ?_
      refine ol_call2 (cap := []) (R := []) rfl rfl rfl rfl (same_ct _ _ _ (xs) (xs) ⟨bgX, cgX, sgX, rfl, m1, hcgX⟩ ⟨bgA, cgA, sgA, rfl, m2, hcgA⟩ (by omega)) (List.Perm.of_eq (List.append_nil _).symm) ?_
      rintro v G9 ⟨rfl, rfl⟩
      rw [decide_eq_true (show xs = xs from rfl)]
      refine OL.nil_app ?_
      refine ol_ev (ev_move rfl) rfl ?_; refine ol_on rfl rfl rfl ?_; refine ol_ev (ev_move rfl) rfl ?_; refine ol_on rfl rfl rfl ?_; refine ol_ev (ev_move rfl) rfl ?_; refine ol_on rfl rfl rfl ?_
      refine ol_call2 (cap := []) (R := []) rfl rfl rfl rfl (same_ct _ _ _ (xs) (xs) ⟨bgY, cgY, sgY, rfl, m0, hcgY⟩ ⟨bgA, cgA, sgA, rfl, m2, hcgA⟩ (by omega)) (List.Perm.of_eq (List.append_nil _).symm) ?_
      rintro v G9 ⟨rfl, rfl⟩
      rw [decide_eq_true (show xs = xs from rfl)]
      refine OL.nil_app ?_
      refine ol_ev (ev_pick_t rfl rfl) rfl ?_; refine ol_ev (ev_move rfl) rfl ?_; refine ol_on rfl rfl rfl ?_; refine ol_ev (ev_move rfl) rfl ?_; refine ol_on rfl rfl rfl ?_; refine ol_ev (ev_move rfl) rfl ?_; refine ol_on rfl rfl rfl ?_; refine ol_ev (ev_eq rfl rfl) rfl ?_; refine ol_ev (ev_pick_t rfl rfl) rfl ?_; refine ol_ev (ev_move rfl) rfl ?_
      rw [decide_eq_true (show codeOf eY = codeOf eY from rfl)]
      refine ol_on rfl rfl rfl ?_; refine ol_ev (ev_move rfl) rfl ?_; refine ol_on rfl rfl rfl ?_; refine ol_ev (ev_move rfl) rfl ?_; refine ol_on rfl rfl rfl ?_; refine ol_ev (ev_eq rfl rfl) rfl ?_; refine ol_ev (ev_pick_t rfl rfl) rfl ?_; refine ol_ev (ev_move rfl) rfl ?_
      rw [decide_eq_true (show codeOf eY = codeOf eY from rfl)]
      refine ol_on rfl rfl rfl ?_
      refine ol_ev (ev_loadS (cs := [str text, pv, .bool tog, .bool false]) rfl rfl m5 rfl) rfl ?_
      refine ol_on rfl rfl rfl ?_
      refine ol_ev (ev_loadS (cs := [.int .i64 c, .int .i64 most]) rfl rfl m4 rfl) rfl ?_
      refine ol_on rfl rfl rfl ?_
      refine ol_call2 (G := []) (cap := []) rfl rfl rfl rfl (living_ct hE ps text pv tog c most hpv htl hpl hmost (by omega)) (List.Perm.refl _) ?_
      rintro v G9 rfl
      refine OL.drop ?_
      refine ol_ev (ev_pick_t rfl rfl) rfl ?_; refine ol_ev (ev_assign rfl) rfl ?_; refine ol_nil ?_; refine cw_ret ?_
      exact ⟨_, res1 rfl rfl, rfl⟩
    · obtain ⟨hk1, hxs, hin, hk2⟩ := hso h0
      have hX : eX = none := by rw [← heX]; unfold untilE; rw [if_pos hin]; rfl
      have hY : eY = some 7 := by rw [← heY]; unfold untilE; rw [if_pos hin]; rfl
      have hZ : eZ = none := by rw [← heZ]; unfold takeE; rw [if_neg (by omega)]
      have hzl : xs.length = k.toNat := by rw [hxs, List.length_take]; omega
      rw [← hxs] at qZ
      subst hX hY hZ
      refine cw_skip ?_; refine cw_seq ?_; refine cw_region ?_
      refine ol_ev (ev_loadS (cs := [str text, pv, .bool tog, .bool false]) rfl rfl m5 rfl) rfl ?_
      refine ol_ev (ev_loadS (cs := [.int .i64 c, .int .i64 most]) rfl rfl m4 rfl) rfl ?_
      refine ol_ev (ev_loadS (cs := b.cells) rfl rfl m3 rfl) rfl ?_
      refine ol_ev (ev_move rfl) rfl ?_
      refine ol_ev (ev_build2 rfl rfl rfl) rfl ?_
      refine ol_lays1 (a := (⟨1, k, []⟩ : Ly)) rfl rfl fun ld => ?_
      have cZ := Layered_ct hE hT ps text pv tog c most b hxl [(ld, laysO [(⟨1, k, []⟩ : Ly)])] _ [(⟨1, k, []⟩ : Ly)] (laysO_at m0) (by simp) (by simp; omega) hpv htl hpl hmost (by omega) ts err hb
      rw [qZ] at cZ
      simp only at cZ
      refine ol_call4 (G := [(ld, laysO [(⟨1, k, []⟩ : Ly)])]) (cap := []) rfl rfl rfl rfl rfl rfl cZ (List.Perm.refl _) ?_
      rintro v GZ ⟨uZ, rfl, ⟨bgZ, cgZ, sgZ, rfl, hgZ, hcgZ⟩⟩
      refine OL.keep hgZ ?_
      refine ol_ev (ev_move rfl) rfl ?_; refine ol_ev (ev_extract rfl rfl) rfl ?_; refine ol_ev (ev_extract rfl rfl) rfl ?_; refine ol_ev (ev_assign rfl) rfl ?_; refine ol_ev (ev_assign rfl) rfl ?_; refine ol_nil ?_; refine cw_seq ?_; refine cw_region ?_; refine ol_ev (ev_move rfl) rfl ?_; refine ol_ev (ev_move rfl) rfl ?_
      refine ol_call2 (cap := []) (R := []) rfl rfl rfl rfl (same_ct _ _ _ (xs) (xs) ⟨bgX, cgX, sgX, rfl, m2, hcgX⟩ ⟨bgZ, cgZ, sgZ, rfl, m0, hcgZ⟩ (by omega)) (List.Perm.of_eq (List.append_nil _).symm) ?_
      rintro v G9 ⟨rfl, rfl⟩
      rw [decide_eq_true (show xs = xs from rfl)]
      refine OL.nil_app ?_
      refine ol_ev (ev_move rfl) rfl ?_; refine ol_on rfl rfl rfl ?_; refine ol_ev (ev_move rfl) rfl ?_; refine ol_on rfl rfl rfl ?_; refine ol_ev (ev_move rfl) rfl ?_; refine ol_on rfl rfl rfl ?_
      refine ol_call2 (cap := []) (R := []) rfl rfl rfl rfl (same_ct _ _ _ (xs) (xs) ⟨bgY, cgY, sgY, rfl, m1, hcgY⟩ ⟨bgZ, cgZ, sgZ, rfl, m0, hcgZ⟩ (by omega)) (List.Perm.of_eq (List.append_nil _).symm) ?_
      rintro v G9 ⟨rfl, rfl⟩
      rw [decide_eq_true (show xs = xs from rfl)]
      refine OL.nil_app ?_
      refine ol_ev (ev_pick_t rfl rfl) rfl ?_; refine ol_ev (ev_move rfl) rfl ?_; refine ol_on rfl rfl rfl ?_; refine ol_ev (ev_move rfl) rfl ?_; refine ol_on rfl rfl rfl ?_; refine ol_ev (ev_eq rfl rfl) rfl ?_; refine ol_ev (ev_pick_t rfl rfl) rfl ?_; refine ol_ev (ev_move rfl) rfl ?_; refine ol_on rfl rfl rfl ?_; refine ol_ev (ev_move rfl) rfl ?_; refine ol_on rfl rfl rfl ?_; refine ol_ev (ev_eq rfl rfl) rfl ?_; refine ol_ev (ev_pick_t rfl rfl) rfl ?_; refine ol_ev (ev_move rfl) rfl ?_; refine ol_on rfl rfl rfl ?_; refine ol_ev (ev_move rfl) rfl ?_; refine ol_on rfl rfl rfl ?_; refine ol_ev (ev_eq rfl rfl) rfl ?_; refine ol_ev (ev_pick_t rfl rfl) rfl ?_; refine ol_ev (ev_move rfl) rfl ?_; refine ol_on rfl rfl rfl ?_; refine ol_ev (ev_move rfl) rfl ?_; refine ol_on rfl rfl rfl ?_; refine ol_ev (ev_len_s rfl) rfl ?_; refine ol_on rfl rfl rfl ?_; refine ol_ev (ev_move rfl) rfl ?_; refine ol_on rfl rfl rfl ?_; refine ol_ev (ev_eq rfl rfl) rfl ?_; refine ol_ev (ev_pick_t rfl rfl) rfl ?_; refine ol_ev (ev_move rfl) rfl ?_
      rw [decide_eq_true (show ((xs.length : Nat) : Int) = k by omega)]
      refine ol_on rfl rfl rfl ?_
      refine ol_ev (ev_loadS (cs := [str text, pv, .bool tog, .bool false]) rfl rfl (List.mem_cons_of_mem _ m5) rfl) rfl ?_
      refine ol_on rfl rfl rfl ?_
      refine ol_ev (ev_loadS (cs := [.int .i64 c, .int .i64 most]) rfl rfl m5 rfl) rfl ?_
      refine ol_on rfl rfl rfl ?_
      refine ol_call2 (G := []) (cap := []) rfl rfl rfl rfl (living_ct hE ps text pv tog c most hpv htl hpl hmost (by omega)) (List.Perm.refl _) ?_
      rintro v G9 rfl
      refine OL.drop ?_
      refine ol_ev (ev_pick_t rfl rfl) rfl ?_; refine ol_ev (ev_assign rfl) rfl ?_; refine ol_nil ?_; refine cw_ret ?_
      exact ⟨_, res1 rfl rfl, rfl⟩
end
end Go.HE
