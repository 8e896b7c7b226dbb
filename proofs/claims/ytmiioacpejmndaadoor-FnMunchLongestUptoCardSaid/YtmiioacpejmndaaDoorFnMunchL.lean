/- Each token of an automaton is accepted, and nothing longer that begins where it does is: the walk. Conditions: those of the contracts. -/
import Derived.Test.YtmiioacpejmndaaDoorMunchS
import Derived.Test.YtmiioacpejmndaaDoorFork
set_option maxRecDepth 100000
set_option maxHeartbeats 4000000
namespace Go.HE
open Go.RowKit Go.Proofs
/-- The tokens behind the first i ones, and where they begin. -/
theorem MunchOf.part {M : Au} {text : List UInt8} {ts : List (List UInt8)} {e : Option Nat} (h : MunchOf M text ts e) : ∀ i, i ≤ ts.length → MunchOf M (text.drop (ts.take i).flatten.length) (ts.drop i) e ∧ (ts.take i).flatten.length ≤ text.length := by
  induction h with
  | nil => intro i hi; simp at hi; subst hi; exact ⟨.nil, by simp⟩
  | bad h0 h1 => intro i hi; simp at hi; subst hi; exact ⟨by simpa using MunchOf.bad h0 h1, by simp⟩
  | @cons r ts e h0 h1 ih =>
    intro i hi
    have hle := M.long_le r
    cases i with
    | zero => exact ⟨by simpa using MunchOf.cons h0 h1, by simp⟩
    | succ i =>
      obtain ⟨i1, i2⟩ := ih i (by simpa using hi)
      simp only [List.take_succ_cons, List.flatten_cons, List.length_append, List.length_take, List.drop_succ_cons, Nat.min_eq_left hle]
      rw [← List.drop_drop]
      refine ⟨i1, ?_⟩
      rw [List.length_drop] at i2
      omega
theorem MunchOf.at_ {M : Au} {text : List UInt8} {ts : List (List UInt8)} {e : Option Nat} (h : MunchOf M text ts e) {i : Nat} (hi : i < ts.length) :
    ts[i] = (text.drop (ts.take i).flatten.length).take (M.long (text.drop (ts.take i).flatten.length)) ∧ 0 < M.long (text.drop (ts.take i).flatten.length) ∧ (ts.take i).flatten.length + ts[i].length ≤ text.length ∧ ts[i].length = M.long (text.drop (ts.take i).flatten.length) := by
  obtain ⟨h1, h2⟩ := h.part i (by omega)
  have hd : ts.drop i = ts[i] :: ts.drop (i + 1) := List.drop_eq_getElem_cons hi
  rw [hd] at h1
  have hll := M.long_le (text.drop (ts.take i).flatten.length)
  generalize hr : text.drop (ts.take i).flatten.length = r at h1 hll
  have hrl := congrArg List.length hr
  rw [List.length_drop] at hrl
  generalize ht : ts[i] = t at h1
  generalize ts.drop (i + 1) = q at h1
  cases h1 with
  | cons a1 a2 =>
    refine ⟨rfl, a1, ?_, ?_⟩
    · rw [List.length_take]; omega
    · rw [List.length_take]; omega
section
variable {W : World} {E : Nat → Addr} {nv fv : Value} {M : Au}
theorem fnMunchLongest_ct (hE : Errs W E) (hM : Mach W nv fv M) (ps : List Int) (text : List UInt8) (pv : Value) (tog brk : Bool) (c most : Int) (hpv : Pcs W pv ps) (htl : text.length ≤ 1099511627776) (hpl : ps.length ≤ 4611686018427387904) (hmost : most ≤ 9223372036854775807) :
    Ct Tryd.prog W 13 #[.agg #[str text, pv, .bool tog, .bool brk], .agg #[.int .i64 c, .int .i64 most], .agg #[.int .i64 M.classes, nv, fv]] [] (fun v _ => v = .bool true) := by
  obtain ⟨ts, e, hmu⟩ := munch_ex M _ text rfl
  have htn := hmu.len
  refine ct_of_cw (vs := [_, _, _]) Tryd.func13 rfl rfl fun w1 => ?_
  refine cw_seq ?_; refine cw_region ?_
  refine ol_box rfl rfl fun b3 => ?_
  refine ol_box rfl rfl fun b4 => ?_
  refine ol_box rfl rfl fun b5 => ?_
  refine ol_ev (ev_assign rfl) rfl ?_; refine ol_nil ?_; refine cw_seq ?_; refine cw_seq ?_
  refine cw_float [(0, false), (1, false), (2, false), (3, false), (4, false), (5, true), (6, false), (7, false), (8, false), (9, false), (10, false)] [(b5, ⟨[.int .i64 M.classes, nv, fv], 51, (0, 0)⟩), (b4, ⟨[.int .i64 c, .int .i64 most], 26, (0, 0)⟩), (b3, ⟨[str text, pv, .bool tog, .bool brk], 24, (0, 0)⟩)] mixed (by kernel_rfl) (List.Sublist.refl _) (fun _ _ _ h => h) (fun _ _ h => h) ?_
  refine fl_ev rfl (ev_fld rfl) rfl ?_; refine fl_ev rfl (ev_load rfl m2 rfl) rfl ?_; refine fl_ev rfl (ev_len_str rfl) rfl ?_; (refine fl_ev rfl (ev_add rfl rfl ?_) rfl ?_; (constructor <;> omega))
  refine fl_ev rfl (ev_loadS (cs := [.int .i64 c, .int .i64 most]) rfl rfl m1 rfl) rfl ?_
  refine fl_x rfl ?_
  refine ol_call1 (G := []) (cap := []) rfl rfl rfl (limit_ct c most) (List.Perm.refl _) ?_
  rintro v G' rfl
  refine OL.drop ?_
  refine ol_nil ⟨sub_refl, ?_⟩
  refine fl_ev rfl (ev_ge rfl rfl) rfl ?_; refine fl_ev rfl (ev_move rfl) rfl ?_
  by_cases hlim : limitOf c most ≤ ((text.length : Nat) : Int) + 1
  · rw [decide_eq_true hlim]
    refine fl_off rfl rfl rfl rfl rfl rfl ?_; refine fl_off rfl rfl rfl rfl rfl rfl ?_; refine fl_ev rfl (ev_pick_t rfl rfl) rfl ?_
    refine fl_nil ?_
    refine cw_if_t rfl ?_; refine cw_seq ?_; refine cw_region ?_; refine ol_ev (ev_assign rfl) rfl ?_; refine ol_nil ?_; refine cw_ret ?_
    exact ⟨_, res1 rfl rfl, rfl⟩
  rw [decide_eq_false hlim]
  cases brk with
  | true =>
    refine fl_ev_on rfl rfl rfl (ev_fld rfl) rfl rfl ?_; refine fl_ev_on rfl rfl rfl (ev_load rfl m2 rfl) rfl rfl ?_; refine fl_ev rfl (ev_pick_f rfl rfl) rfl ?_
    refine fl_nil ?_
    refine cw_if_t rfl ?_; refine cw_seq ?_; refine cw_region ?_; refine ol_ev (ev_assign rfl) rfl ?_; refine ol_nil ?_; refine cw_ret ?_
    exact ⟨_, res1 rfl rfl, rfl⟩
  | false =>
    refine fl_ev_on rfl rfl rfl (ev_fld rfl) rfl rfl ?_; refine fl_ev_on rfl rfl rfl (ev_load rfl m2 rfl) rfl rfl ?_; refine fl_ev rfl (ev_pick_f rfl rfl) rfl ?_
    refine fl_nil ?_
    refine cw_if_f rfl ?_; refine cw_skip ?_; refine cw_seq ?_; refine cw_region ?_
    refine ol_ev (ev_loadS (cs := [str text, pv, .bool tog, .bool false]) rfl rfl m2 rfl) rfl ?_
    refine ol_ev (ev_loadS (cs := [.int .i64 c, .int .i64 most]) rfl rfl m1 rfl) rfl ?_
    refine ol_ev (ev_loadS (cs := [.int .i64 M.classes, nv, fv]) rfl rfl m0 rfl) rfl ?_
    refine ol_call3 (G := []) (cap := []) rfl rfl rfl rfl rfl (munch_ct hE hM ps text pv tog c most ts e hpv (by omega) hpl hmost (by omega) (mrun hmu (by omega)) (munch_ne0 hmu.err) (by omega)) (List.Perm.refl _) ?_
    rintro v G2 ⟨u2, rfl, ⟨bg, cg, sg, rfl, hg, hcg⟩⟩
    refine OL.keep hg ?_
    refine ol_ev (ev_move rfl) rfl ?_; refine ol_ev (ev_extract rfl rfl) rfl ?_; refine ol_ev (ev_extract rfl rfl) rfl ?_; refine ol_ev (ev_assign rfl) rfl ?_; refine ol_ev (ev_assign rfl) rfl ?_; refine ol_nil ?_; refine cw_seq ?_; refine cw_region ?_
    refine ol_ev (ev_loadS (cs := [.int .i64 M.classes, nv, fv]) rfl rfl m1 rfl) rfl ?_
    refine ol_call1 (G := []) (cap := []) rfl rfl rfl (automaton_ct hM) (List.Perm.refl _) ?_
    rintro v G' rfl
    refine OL.drop ?_
    refine ol_alloc rfl fun b9 => ?_
    have hone : nv.oneCell' = true ∧ fv.oneCell' = true := by
      obtain ⟨⟨na, ncap, rfl, _⟩, ⟨fa, fcap, rfl, _⟩⟩ := hM
      exact ⟨rfl, rfl⟩
    refine ol_storeS (o := ⟨[.int .i64 0, .slice none 0 0, .slice none 0 0], 54, (0, 0)⟩) (cs := [.int .i64 M.classes, nv, fv]) rfl rfl rfl (by intro u hu; simp only [List.mem_cons, List.not_mem_nil, or_false] at hu; rcases hu with rfl | rfl | rfl; rfl; exact hone.1; exact hone.2) u0 rfl rfl ?_
    refine ol_nil ?_; refine cw_seq ?_; refine cw_region ?_; refine ol_ev (ev_assign rfl) rfl ?_; refine ol_nil ?_; refine cw_seq ?_; refine cw_seq ?_; refine cw_region ?_; refine ol_ev (ev_assign rfl) rfl ?_; refine ol_nil ?_; refine cw_block ?_
    refine cw_loop (σ := Nat) (fun i => [(3, .pointer (some ⟨b3, 0, none⟩)), (7, .slice (some ⟨bg, 0, none⟩) ts.length cg), (9, .pointer (some ⟨b9, 0, none⟩)), (10, .int .i64 ((ts.take i).flatten.length : Int)), (11, .int .i64 (i : Int))]) (fun _ => (b9, ⟨[.int .i64 M.classes, nv, fv], 54, (0, 0)⟩) :: (bg, strO ts sg) :: (b5, ⟨[.int .i64 M.classes, nv, fv], 51, (0, 0)⟩) :: (b4, ⟨[.int .i64 c, .int .i64 most], 26, (0, 0)⟩) :: (b3, ⟨[str text, pv, .bool tog, .bool false], 24, (0, 0)⟩) :: []) (fun i => i ≤ ts.length) (fun i => ts.length - i) 0 (Nat.zero_le _) (fun a ha => ha.weak ⟨rfl, rfl, rfl, rfl, rfl, trivial⟩) rfl ?_
    intro i hi
    refine cw_seq ?_; refine cw_seq ?_; refine cw_region ?_; refine ol_ev (ev_move rfl) rfl ?_; refine ol_ev (ev_move rfl) rfl ?_; refine ol_ev (ev_len_s rfl) rfl ?_; refine ol_ev (ev_lt rfl rfl) rfl ?_; refine ol_nil ?_
    refine cw_ifd rfl (fun h2 => ?_) (fun h2 => ?_)
    · have hx : i < ts.length := by omega
      obtain ⟨t1, t2, t3, t4⟩ := hmu.at_ hx
      have hnext : (ts.take (i + 1)).flatten.length = (ts.take i).flatten.length + ts[i].length := by
        have e9 : ts.take (i + 1) = ts.take i ++ [ts[i]] := by rw [List.take_add_one, List.getElem?_eq_getElem hx]; rfl
        rw [e9, List.flatten_append, List.length_append, List.flatten_cons, List.flatten_nil, List.append_nil]
      have hacc : M.acc (M.run 0 ts[i]) = true := by rw [t1]; exact M.best_acc _ _ t2
      generalize hat : (ts.take i).flatten.length = at' at t1 t2 t3 t4 hnext
      have k1 : (strO ts sg).cells[0 + ((i : Int)).toNat]? = some (str ts[i]) := strO_cell hx
      refine cw_skip ?_; refine cw_seq ?_; refine cw_block ?_; refine cw_seq ?_; refine cw_seq ?_
      refine cw_mid 17 mixed (by kernel_rfl) rfl ?_
      (iterate 3 (refine sl_ev (ev_move rfl) rfl ?_))
      refine sl_ev (ev_idx1 rfl rfl (by omega) (by omega)) rfl ?_
      refine sl_ev (ev_load rfl m1 k1) rfl ?_
      refine sl_ev (ev_len_str rfl) rfl ?_; (refine sl_ev (ev_add rfl rfl ?_) rfl ?_; (constructor <;> omega)); refine sl_ev (ev_fld rfl) rfl ?_; refine sl_ev (ev_load rfl m4 rfl) rfl ?_; refine sl_ev (ev_len_str rfl) rfl ?_; refine sl_ev (ev_gt rfl rfl) rfl ?_; refine sl_ev (ev_move rfl) rfl ?_
      rw [decide_eq_false (show ¬ ((text.length : Nat) : Int) < ((at' : Nat) : Int) + ((ts[i].length : Nat) : Int) by omega)]
      refine sl_on rfl rfl rfl ?_
      refine sl_ev (ev_loadS (cs := [.int .i64 M.classes, nv, fv]) rfl rfl m0 rfl) rfl ?_
      refine sl_on rfl rfl rfl ?_; refine sl_ev (ev_move rfl) rfl ?_; refine sl_on rfl rfl rfl ?_; refine sl_ev (ev_move rfl) rfl ?_; refine sl_on rfl rfl rfl ?_
      refine sl_ev (ev_idx1 rfl rfl (by omega) (by omega)) rfl ?_
      refine sl_on rfl rfl rfl ?_
      refine sl_ev (ev_load rfl m1 k1) rfl ?_
      refine sl_nil ?_
      refine ol_on rfl rfl rfl ?_
      refine ol_call2 (G := []) (cap := []) rfl rfl rfl rfl (specAccepts_ct hM ts[i] (by omega)) (List.Perm.refl _) ?_
      rintro v G' rfl
      rw [hacc]
      refine OL.drop ?_
      refine ol_nil ?_
      refine sl_on rfl rfl rfl ?_; refine sl_ev (ev_not rfl) rfl ?_; refine sl_ev (ev_pick_f rfl rfl) rfl ?_; refine sl_nil ?_
      refine cw_if_f rfl ?_; refine cw_skip ?_; refine cw_seq ?_; refine cw_seq ?_; refine cw_region ?_; refine ol_ev (ev_move rfl) rfl ?_; refine ol_ev (ev_move rfl) rfl ?_
      refine ol_ev (ev_idx1 rfl rfl (by omega) (by omega)) rfl ?_
      refine ol_ev (ev_load rfl m1 k1) rfl ?_
      refine ol_ev (ev_len_str rfl) rfl ?_; (refine ol_ev (ev_add rfl rfl ?_) rfl ?_; (constructor <;> omega)); refine ol_ev (ev_assign rfl) rfl ?_; refine ol_nil ?_; refine cw_block ?_
      refine cw_loop (σ := Nat) (fun n => [(3, .pointer (some ⟨b3, 0, none⟩)), (7, .slice (some ⟨bg, 0, none⟩) ts.length cg), (9, .pointer (some ⟨b9, 0, none⟩)), (10, .int .i64 (at' : Int)), (11, .int .i64 (i : Int)), (12, .int .i64 (n : Int))]) (fun _ => (b9, ⟨[.int .i64 M.classes, nv, fv], 54, (0, 0)⟩) :: (bg, strO ts sg) :: (b5, ⟨[.int .i64 M.classes, nv, fv], 51, (0, 0)⟩) :: (b4, ⟨[.int .i64 c, .int .i64 most], 26, (0, 0)⟩) :: (b3, ⟨[str text, pv, .bool tog, .bool false], 24, (0, 0)⟩) :: []) (fun n => ts[i].length < n ∧ at' + n ≤ text.length + 1) (fun n => text.length + 1 - n) (ts[i].length + 1) ⟨by omega, by omega⟩ (fun a ha => ha.weak ⟨rfl, rfl, rfl, rfl, rfl, rfl, trivial⟩) rfl ?_
      rintro n ⟨hn1, hn2⟩
      refine cw_seq ?_; refine cw_seq ?_; refine cw_region ?_; refine ol_ev (ev_move rfl) rfl ?_; refine ol_ev (ev_move rfl) rfl ?_; (refine ol_ev (ev_add rfl rfl ?_) rfl ?_; (constructor <;> omega)); refine ol_ev (ev_fld rfl) rfl ?_; refine ol_ev (ev_load rfl m4 rfl) rfl ?_; refine ol_ev (ev_len_str rfl) rfl ?_; refine ol_ev (ev_le rfl rfl) rfl ?_; refine ol_nil ?_
      refine cw_ifd rfl (fun h3 => ?_) (fun h3 => ?_)
      · have hsub : sub text ((at' : Int)).toNat ((at' : Int) + (n : Int)).toNat = (text.drop at').take n := by
          rw [show ((at' : Int)).toNat = at' by omega, show ((at' : Int) + (n : Int)).toNat = at' + n by omega]
          unfold sub
          rw [Nat.add_sub_cancel_left]
        have hno : M.acc (M.run 0 ((text.drop at').take n)) = false := M.best_max _ (text.drop at').length n (by rw [t4] at hn1; exact hn1) (by rw [List.length_drop]; omega)
        refine cw_skip ?_; refine cw_seq ?_; refine cw_block ?_; refine cw_seq ?_
        refine cw_mid 8 mixed (by kernel_rfl) rfl ?_
        refine sl_ev (ev_loadS (cs := [.int .i64 M.classes, nv, fv]) rfl rfl m0 rfl) rfl ?_
        refine sl_ev (ev_fld rfl) rfl ?_; refine sl_ev (ev_load rfl m4 rfl) rfl ?_; (iterate 3 (refine sl_ev (ev_move rfl) rfl ?_)); (refine sl_ev (ev_add rfl rfl ?_) rfl ?_; (constructor <;> omega))
        refine sl_ev (ev_slice_str rfl rfl rfl (by omega) (by omega) (by omega)) rfl ?_
        rw [hsub]
        refine sl_nil ?_
        refine ol_call2 (G := []) (cap := []) rfl rfl rfl rfl (specAccepts_ct hM ((text.drop at').take n) (by simp; omega)) (List.Perm.refl _) ?_
        rintro v G' rfl
        rw [hno]
        refine OL.drop ?_
        refine ol_nil ?_
        refine sl_nil ?_
        refine cw_if_f rfl ?_; refine cw_skip ?_; refine cw_region ?_; refine ol_ev (ev_move rfl) rfl ?_; (refine ol_ev (ev_add rfl rfl ?_) rfl ?_; (constructor <;> omega)); refine ol_ev (ev_assign rfl) rfl ?_; refine ol_nil ?_
        exact ⟨n + 1, ⟨by omega, by omega⟩, ⟨rfl, rfl, rfl, rfl, rfl, rfl, trivial⟩, rfl, by omega⟩
      · refine cw_exit ?_; refine cw_region ?_; (iterate 3 (refine ol_ev (ev_move rfl) rfl ?_))
        refine ol_ev (ev_idx1 rfl rfl (by omega) (by omega)) rfl ?_
        refine ol_ev (ev_load rfl m1 k1) rfl ?_
        refine ol_ev (ev_len_str rfl) rfl ?_; (refine ol_ev (ev_add rfl rfl ?_) rfl ?_; (constructor <;> omega)); refine ol_ev (ev_assign rfl) rfl ?_; refine ol_nil ?_; refine cw_region ?_; refine ol_ev (ev_move rfl) rfl ?_; (refine ol_ev (ev_add rfl rfl ?_) rfl ?_; (constructor <;> omega)); refine ol_ev (ev_assign rfl) rfl ?_; refine ol_nil ?_
        refine ⟨i + 1, hx, ⟨rfl, rfl, rfl, ?_, rfl, trivial⟩, rfl, by omega⟩
        rw [hnext]; rfl
    · refine cw_exit ?_; refine cw_seq ?_; refine cw_region ?_; refine ol_ev (ev_move rfl) rfl ?_; refine ol_ev (ev_len_s rfl) rfl ?_; refine ol_ev (ev_gt rfl rfl) rfl ?_; refine ol_ev (ev_move rfl) rfl ?_
      by_cases h0 : 0 < ts.length
      · rw [decide_eq_true (show (0 : Int) < ((ts.length : Nat) : Int) by omega)]
        (iterate 5 (refine ol_off rfl rfl rfl rfl rfl ?_)); refine ol_ev (ev_pick_t rfl rfl) rfl ?_; refine ol_ev (ev_assign rfl) rfl ?_; refine ol_nil ?_; refine cw_ret ?_
        exact ⟨_, res1 rfl rfl, rfl⟩
      · have hl0 : M.long text = 0 := by
          have : ts = [] := List.length_eq_zero_iff.1 (by omega)
          subst this
          cases hmu with
          | nil => rfl
          | bad _ h => exact h
        rw [decide_eq_false (show ¬ (0 : Int) < ((ts.length : Nat) : Int) by omega)]
        refine ol_on rfl rfl rfl ?_
        refine ol_ev (ev_loadS (cs := [.int .i64 M.classes, nv, fv]) rfl rfl m0 rfl) rfl ?_
        refine ol_on rfl rfl rfl ?_; refine ol_ev (ev_fld rfl) rfl ?_; refine ol_on rfl rfl rfl ?_; refine ol_ev (ev_load rfl m4 rfl) rfl ?_; refine ol_on rfl rfl rfl ?_
        refine ol_call2 (G := []) (cap := []) rfl rfl rfl rfl (specLongest_ct hM text htl) (List.Perm.refl _) ?_
        rintro v G' rfl
        rw [hl0]
        refine OL.drop ?_
        refine ol_on rfl rfl rfl ?_; refine ol_ev (ev_eq rfl rfl) rfl ?_; refine ol_ev (ev_pick_f rfl rfl) rfl ?_; refine ol_ev (ev_assign rfl) rfl ?_; refine ol_nil ?_; refine cw_ret ?_
        exact ⟨_, res1 rfl rfl, rfl⟩
end
end Go.HE
