/- Parts between separators, by contracts: the split function, all tokens, the reference. Conditions: the errors are as start-up lays them; the pieces lie in old memory; the text has at most 2 to the 40th bytes. -/
import Derived.Test.YtkaomlklllinlaaDoorPartsP
import Derived.Test.YtkaomlklllinlaaDoorAll
set_option maxRecDepth 100000
set_option maxHeartbeats 4000000
namespace Go.HE
open Go.RowKit Go.Proofs

/-- A separator. -/
def sepOf (s : List UInt8) : List UInt8 := if s = [] then [44] else s
theorem sepOf_ne (s : List UInt8) : sepOf s ≠ [] := by unfold sepOf; split <;> simp_all
theorem sepOf_len (s : List UInt8) : (sepOf s).length ≤ s.length + 1 := by unfold sepOf; split <;> simp_all

section
variable {W : World} {E : Nat → Addr}
theorem separated_ct (s : List UInt8) : Ct Tryd.prog W 21 #[str s] [] (fun v H' => v = str (sepOf s) ∧ H' = []) := by
  refine ct_of_cw (vs := [_]) Tryd.func21 rfl rfl fun w1 => ?_
  by_cases h : s = []
  · subst h
    refine cw_seq ?_; refine cw_region ?_; refine ol_ev (ev_assign rfl) rfl ?_; refine ol_nil ?_; refine cw_seq ?_; refine cw_seq ?_; refine cw_region ?_; refine ol_ev (ev_move rfl) rfl ?_; refine ol_ev (ev_eq_str rfl rfl) rfl ?_; refine ol_nil ?_; refine cw_if_t rfl ?_; refine cw_seq ?_; refine cw_region ?_; refine ol_ev (ev_assign rfl) rfl ?_; refine ol_nil ?_; refine cw_ret ?_
    exact ⟨_, res1 rfl rfl, rfl, rfl⟩
  · refine cw_seq ?_; refine cw_region ?_; refine ol_ev (ev_assign rfl) rfl ?_; refine ol_nil ?_; refine cw_seq ?_; refine cw_seq ?_; refine cw_region ?_; refine ol_ev (ev_move rfl) rfl ?_; refine ol_ev (ev_eq_str rfl rfl) rfl ?_; refine ol_nil ?_
    rw [decide_eq_false (show ¬ s = _ from h)]
    refine cw_if_f rfl ?_; refine cw_skip ?_; refine cw_seq ?_; refine cw_region ?_; refine ol_ev (ev_move rfl) rfl ?_; refine ol_ev (ev_assign rfl) rfl ?_; refine ol_nil ?_; refine cw_ret ?_
    refine ⟨_, res1 rfl rfl, ?_, rfl⟩
    unfold sepOf; rw [if_neg h]

theorem parts_ok (hE : Errs W E) (xb : Nat) (x : List UInt8) (hx : x ≠ []) (hxl : x.length ≤ 1099511627776) : SplitOk W E 67 [.pointer (some ⟨xb, 0, none⟩)] (pstep x) (fun _ T => (xb, (⟨[str x], 9, (0, 0)⟩ : HO)) ∈ T) := by
  refine ⟨by kernel_rfl, fun _ _ _ hp h => hp.subset h, fun _ _ _ h => List.mem_cons_of_mem _ h, fun s d e c h => ?_, fun s T bb off dcap cells data atEOF hI hne hdat hle hcap hbig => ?_⟩
  · unfold pstep at h
    split at h
    · cases h
    · split at h
      · cases h; omega
      · cases h
  have hpos := List.length_pos_iff.2 hx
  have hI' : (xb, (⟨[str x], 9, (0, 0)⟩ : HO)) ∈ (bb, (⟨cells, 5, (0, 0)⟩ : HO)) :: T := List.mem_cons_of_mem _ hI
  refine ct_of_cw (vs := [_, _, _]) Tryd.func67 rfl rfl fun w1 => ?_
  refine cw_seq ?_
  refine cw_region ?_; (iterate 3 (refine ol_ev (ev_assign rfl) rfl ?_)); refine ol_nil ?_
  refine cw_cut (fun l' H' => SubE l' [(0, .slice (some ⟨bb, off, none⟩) data.length dcap), (1, .bool atEOF)] ∧ H' = (bb, (⟨cells, 5, (0, 0)⟩ : HO)) :: T ∧ findW x data = none) ?_ ?_
  · refine cw_seq ?_; refine cw_region ?_; refine ol_ev (ev_assign rfl) rfl ?_; refine ol_nil ?_; refine cw_block ?_
    refine cw_loop (σ := Nat) (fun i => [(0, .slice (some ⟨bb, off, none⟩) data.length dcap), (1, .bool atEOF), (2, .pointer (some ⟨xb, 0, none⟩)), (8, .int .i64 (i : Int))]) (fun _ => (bb, (⟨cells, 5, (0, 0)⟩ : HO)) :: T)
      (fun i => i ≤ data.length + 1 ∧ ∀ j, j < i → (data.drop j).take x.length ≠ x) (fun i => data.length + 1 - i) 0 ⟨Nat.zero_le _, fun j hj => by omega⟩ (fun a ha => ha.weak ⟨rfl, rfl, rfl, rfl, trivial⟩) rfl ?_
    rintro i ⟨hi, hall⟩
    refine cw_seq ?_; refine cw_seq ?_; refine cw_region ?_; refine ol_ev (ev_move rfl) rfl ?_
    refine ol_ev (ev_load rfl hI' rfl) rfl ?_
    refine ol_ev (ev_len_str rfl) rfl ?_; (refine ol_ev (ev_add rfl rfl ?_) rfl ?_; (constructor <;> omega)); refine ol_ev (ev_move rfl) rfl ?_; refine ol_ev (ev_len_s rfl) rfl ?_; refine ol_ev (ev_le rfl rfl) rfl ?_; refine ol_nil ?_
    refine cw_ifd rfl (fun h2 => ?_) (fun h2 => ?_)
    · have hfit : i + x.length ≤ data.length := by omega
      have e1 : (((i : Nat) : Int) + ((x.length : Nat) : Int)).toNat - ((i : Nat) : Int).toNat = ((data.drop i).take x.length).length := by simp; omega
      have e2 : ¬ dcap = ((i : Nat) : Int).toNat := by omega
      have hcel : (cells.drop (off + ((i : Nat) : Int).toNat)).take ((data.drop i).take x.length).length = bcells ((data.drop i).take x.length) := by
        have h9 : ((data.drop i).take x.length).length = x.length := by simp; omega
        rw [h9, ← bcells_take, ← bcells_drop, ← hdat]
        have h8 : ((i : Nat) : Int).toNat = i := by omega
        rw [h8, ← List.drop_drop, List.drop_take, List.take_take, Nat.min_eq_left (by omega)]
      refine cw_skip ?_; refine cw_seq ?_; refine cw_block ?_; refine cw_seq ?_
      refine cw_float [(0, false), (1, false), (2, false), (3, false), (4, false), (5, false), (6, false), (8, false), (7, true), (9, false)] ((bb, (⟨cells, 5, (0, 0)⟩ : HO)) :: T) mixed (by kernel_rfl) (List.Sublist.refl _) (fun _ _ _ h => h) (fun _ _ h => h) ?_
      (iterate 3 (refine fl_ev rfl (ev_move rfl) rfl ?_))
      refine fl_ev rfl (ev_load rfl hI' rfl) rfl ?_
      refine fl_ev rfl (ev_len_str rfl) rfl ?_; (refine fl_ev rfl (ev_add rfl rfl ?_) rfl ?_; (constructor <;> omega))
      refine fl_ev rfl (ev_slice rfl rfl rfl (by omega) (by omega) (by omega)) rfl ?_
      rw [if_neg e2, e1]
      refine fl_ev rfl (ev_load rfl hI' rfl) rfl ?_
      refine fl_x rfl ?_
      refine ol_ev (ev_str_bytes rfl m0 hcel) rfl ?_
      refine ol_nil ⟨sub_refl, ?_⟩
      refine fl_ev rfl (ev_eq_str rfl rfl) rfl ?_
      refine fl_nil ?_
      refine cw_ifd rfl (fun h3 => ?_) (fun h3 => ?_)
      · have hf : findW x data = some i := findW_eq hx h3 hall
        refine cw_seq ?_
        refine cw_still mixed (by kernel_rfl) ?_
        refine sl_ev (ev_move rfl) rfl ?_
        refine sl_ev (ev_load rfl hI' rfl) rfl ?_
        refine sl_ev (ev_len_str rfl) rfl ?_; (refine sl_ev (ev_add rfl rfl ?_) rfl ?_; (constructor <;> omega)); refine sl_ev (ev_move rfl) rfl ?_; refine sl_ev (ev_move rfl) rfl ?_
        refine sl_ev (ev_slice_to rfl rfl (by omega) (by omega)) rfl ?_
        (iterate 3 (refine sl_ev (ev_assign rfl) rfl ?_)); refine sl_nil ?_
        refine cw_ret ?_
        refine ⟨_, res3 rfl rfl rfl rfl, ?_⟩
        have hst : pstep x s data atEOF = ⟨((i + x.length : Nat) : Int), some (data.take i), none, ()⟩ := by unfold pstep; rw [hf]
        rw [hst]
        have htl : (data.take i).length = i := by simp; omega
        refine ⟨_, T, rfl, rfl, hI, fun _ _ h _ => h, bb, off, dcap, _, ?_, m0, ?_, rfl, by rw [htl]; omega⟩
        · rw [htl]; rfl
        · rw [htl]
          have := congrArg (List.take i) hdat
          rw [List.take_take, Nat.min_eq_left (by omega), bcells_take] at this
          exact this
      · refine cw_skip ?_; refine cw_region ?_; refine ol_ev (ev_move rfl) rfl ?_; (refine ol_ev (ev_add rfl rfl ?_) rfl ?_; (constructor <;> omega)); refine ol_ev (ev_assign rfl) rfl ?_; refine ol_nil ?_
        refine ⟨i + 1, ⟨by omega, fun j hj => ?_⟩, ⟨rfl, rfl, rfl, rfl, trivial⟩, rfl, by omega⟩
        rcases Nat.lt_succ_iff_lt_or_eq.1 hj with hj | rfl
        · exact hall j hj
        · exact h3
    · refine cw_exit ?_
      refine ⟨⟨rfl, rfl, trivial⟩, rfl, findW_nowhere (fun j h => ?_) hx⟩
      by_cases hj : j < i
      · exact hall j hj h
      · have := congrArg List.length h
        simp at this
        omega
  · rintro l' H' ⟨hl', rfl, hf⟩
    refine CW.weak hl' ?_
    clear hl'
    cases atEOF with
    | false =>
      refine cw_seq ?_; refine cw_seq ?_; refine cw_region ?_; refine ol_ev (ev_move rfl) rfl ?_; refine ol_nil ?_; refine cw_if_f rfl ?_; refine cw_skip ?_; refine cw_seq ?_; refine cw_region ?_; (iterate 3 (refine ol_ev (ev_assign rfl) rfl ?_)); refine ol_nil ?_; refine cw_ret ?_
      refine ⟨_, res3 rfl rfl rfl rfl, ?_⟩
      have hst : pstep x s data false = ⟨0, none, none, ()⟩ := by unfold pstep; rw [hf]; rfl
      rw [hst]
      exact ⟨_, T, rfl, rfl, hI, fun _ _ h _ => h, rfl⟩
    | true =>
      refine cw_seq ?_; refine cw_seq ?_; refine cw_region ?_; refine ol_ev (ev_move rfl) rfl ?_; refine ol_nil ?_; refine cw_if_t rfl ?_; refine cw_seq ?_
      refine cw_float [(0, false), (1, false), (3, false), (5, false), (2, true), (4, true), (6, false), (7, false), (8, false)] [] mixed (by kernel_rfl) (List.nil_sublist _) (fun _ _ _ h => h) (fun _ _ h => h) ?_
      refine fl_ev rfl (ev_move rfl) rfl ?_; refine fl_ev rfl (ev_len_s rfl) rfl ?_; refine fl_ev rfl (ev_move rfl) rfl ?_
      refine fl_ev rfl (ev_loadW rfl hE.c6) rfl ?_
      refine fl_x rfl ?_
      refine ol_slice0 rfl fun ob => ?_
      refine ol_nil ⟨sub_nil, ?_⟩
      refine fl_x rfl ?_
      refine ol_append (xs := []) (sp := []) (ys := bcells data) rfl rfl (fun _ _ => r0) m1 rfl rfl (by simp [bcells]) (by rw [show (bcells data).length = data.length by simp [bcells]]; exact hdat) (bcells_one data) rfl (by omega) (by omega) rfl ?_
      intro b' sp'
      refine OL.perm (List.Perm.swap _ _ _) ?_
      refine ol_nil ⟨sub_nil, ?_⟩
      (iterate 3 (refine fl_ev rfl (ev_assign rfl) rfl ?_))
      refine fl_nil ?_
      refine cw_ret ?_
      refine ⟨_, res3 rfl rfl rfl rfl, ?_⟩
      have hst : pstep x s data true = ⟨data.length, some data, some 6, ()⟩ := by unfold pstep; rw [hf]; rfl
      rw [hst]
      refine ⟨_, (b', ⟨bcells data ++ sp', 5, (0, 0)⟩) :: T, rfl, rfl, List.mem_cons_of_mem _ hI, fun _ _ h _ => List.mem_cons_of_mem _ h, b', 0, ([] ++ bcells data).length + sp'.length, _, ?_, m1, ?_, rfl, by simp [bcells]⟩
      · rw [Nat.zero_add]
      · show (bcells data ++ sp').take data.length = bcells data
        rw [show data.length = (bcells data).length by simp [bcells]]
        simp

theorem partsF_ct (s : List UInt8) :
    Ct Tryd.prog W 47 #[str s] [] (fun v H' => ∃ xb, v = .func (.func 67) #[] [.pointer (some ⟨xb, 0, none⟩)].toArray ∧ H' = [(xb, ⟨[str (sepOf s)], 9, (0, 0)⟩)]) := by
  refine ct_of_cw (vs := [_]) Tryd.func47 rfl rfl fun w1 => ?_
  by_cases h : s = []
  · subst h
    refine cw_seq ?_; refine cw_region ?_
    refine ol_box rfl rfl fun xb => ?_
    refine ol_ev (ev_assign rfl) rfl ?_; refine ol_nil ?_; refine cw_seq ?_; refine cw_seq ?_; refine cw_region ?_; refine ol_ev (ev_load rfl m0 rfl) rfl ?_; refine ol_ev (ev_eq_str rfl rfl) rfl ?_; refine ol_nil ?_; refine cw_if_t rfl ?_; refine cw_region ?_; refine ol_store rfl rfl rfl u0 rfl rfl ?_; refine ol_nil ?_; refine cw_seq ?_; refine cw_region ?_; refine ol_ev (ev_mkfunc1 rfl) rfl ?_; refine ol_ev (ev_assign rfl) rfl ?_; refine ol_nil ?_; refine cw_ret ?_
    exact ⟨_, res1 rfl rfl, xb, rfl, rfl⟩
  · refine cw_seq ?_; refine cw_region ?_
    refine ol_box rfl rfl fun xb => ?_
    refine ol_ev (ev_assign rfl) rfl ?_; refine ol_nil ?_; refine cw_seq ?_; refine cw_seq ?_; refine cw_region ?_; refine ol_ev (ev_load rfl m0 rfl) rfl ?_; refine ol_ev (ev_eq_str rfl rfl) rfl ?_; refine ol_nil ?_
    rw [decide_eq_false (show ¬ s = _ from h)]
    refine cw_if_f rfl ?_; refine cw_skip ?_; refine cw_seq ?_; refine cw_region ?_; refine ol_ev (ev_mkfunc1 rfl) rfl ?_; refine ol_ev (ev_assign rfl) rfl ?_; refine ol_nil ?_; refine cw_ret ?_
    refine ⟨_, res1 rfl rfl, xb, rfl, ?_⟩
    unfold sepOf; rw [if_neg h]; rfl

theorem parts_ct (hE : Errs W E) (ps : List Int) (text s : List UInt8) (pv : Value) (tog : Bool) (c most : Int) (ts : List (List UInt8)) (err : Option Nat) (hpv : Pcs W pv ps) (htl : text.length ≤ 1099511627776) (hsl : s.length < 1099511627776) (hpl : ps.length ≤ 4611686018427387904) (hmost : most ≤ 9223372036854775807) (hlim : 0 < limitOf c most)
    (hr : Run (Pq (sepOf s) (limitOf c most).toNat) () text ts err) (he : err ≠ some 0) (htn : ts.length ≤ 1099511627777) :
    Ct Tryd.prog W 22 #[.agg #[str text, pv, .bool tog, .bool false], .agg #[.int .i64 c, .int .i64 most], str s] [] (fun v H' => ∃ u, v = .tuple #[u, .int .i64 (codeOf err)] ∧ StrsAt H' u ts) := by
  have hx := sepOf_ne s
  have hxl : (sepOf s).length ≤ 1099511627776 := by have := sepOf_len s; omega
  obtain ⟨k, x2, htk, hx0⟩ := all_toks (pgood (x := sepOf s) (L := (limitOf c most).toNat) hx (by omega)) ps hr pv tog c most htl he
  generalize hX : sepOf s = x at *
  refine ct_of_cw (vs := [_, _, _]) Tryd.func22 rfl rfl fun w1 => ?_
  refine cw_seq ?_; refine cw_region ?_
  refine ol_box rfl rfl fun b3 => ?_
  refine ol_box rfl rfl fun b4 => ?_
  refine ol_ev (ev_assign rfl) rfl ?_; refine ol_ev (ev_assign rfl) rfl ?_; refine ol_nil ?_; refine cw_seq ?_
  refine cw_float [(0, false), (1, false), (2, false), (3, true), (4, true), (5, true), (6, false), (7, false), (8, false), (9, false)] [(b4, ⟨[.int .i64 c, .int .i64 most], 26, (0, 0)⟩), (b3, ⟨[str text, pv, .bool tog, .bool false], 24, (0, 0)⟩)] mixed (by kernel_rfl) (List.Sublist.refl _) (fun _ _ _ h => h) (fun _ _ h => h) ?_
  refine fl_ev rfl (ev_loadS (cs := [str text, pv, .bool tog, .bool false]) rfl rfl m1 rfl) rfl ?_
  refine fl_ev rfl (ev_loadS (cs := [.int .i64 c, .int .i64 most]) rfl rfl m0 rfl) rfl ?_
  refine fl_ev rfl (ev_move rfl) rfl ?_
  refine fl_x rfl ?_
  refine ol_call1 (G := []) (cap := []) rfl rfl rfl (partsF_ct s) (List.Perm.refl _) ?_
  rintro v G' ⟨xb, rfl, rfl⟩
  rw [hX]
  refine ol_nil ⟨sub_right, ?_⟩
  refine fl_x rfl ?_
  refine ol_call3 (G := [(xb, ⟨[str x], 9, (0, 0)⟩)]) (cap := []) rfl rfl rfl rfl rfl (scanner_ct (E := E) (parts_ok hE xb x hx hxl) ps () [(xb, ⟨[str x], 9, (0, 0)⟩)] text pv tog false c most m0 hpv (by omega) hpl hmost) (List.Perm.refl _) ?_
  rintro v G' ⟨sb, rb, rfl, hready⟩
  refine ol_nil ⟨sub_right, ?_⟩
  refine fl_x rfl ?_
  refine ol_call1 (G := G') (cap := []) rfl rfl rfl (tokens_ct hE (parts_ok hE xb x hx hxl) ps k _ false ts x2 sb rb G' htk hready (by omega)) (List.Perm.refl _) ?_
  rintro v G'' ⟨b, sp, rfl, hmem⟩
  rw [hx0]
  refine ol_nil ⟨sub_right, ?_⟩
  refine fl_ev rfl (ev_extract rfl rfl) rfl ?_; refine fl_ev rfl (ev_extract rfl rfl) rfl ?_; refine fl_ev rfl (ev_assign rfl) rfl ?_; refine fl_ev rfl (ev_assign rfl) rfl ?_
  refine fl_nil ?_
  refine cw_ret ?_
  exact ⟨_, res2 rfl rfl rfl, _, rfl, b, _, sp, rfl, List.mem_append_left _ hmem, Nat.le_add_right _ _⟩

theorem at_ct (text word : List UInt8) (p : Nat) (hp : p ≤ text.length) (hl : text.length ≤ 1099511627776) (hwl : word.length ≤ 1099511627776) :
    Ct Tryd.prog W 61 #[str text, str word, .int .i64 (p : Int)] [] (fun v H' => v = .bool (decide ((text.drop p).take word.length = word)) ∧ H' = []) := by
  refine ct_of_cw (vs := [_, _, _]) Tryd.func61 rfl rfl fun w1 => ?_
  by_cases h : p + word.length ≤ text.length
  · have hs : sub text ((p : Nat) : Int).toNat (((p : Nat) : Int) + ((word.length : Nat) : Int)).toNat = (text.drop p).take word.length := by
      have e1 : ((p : Nat) : Int).toNat = p := by omega
      have e2 : (((p : Nat) : Int) + ((word.length : Nat) : Int)).toNat = p + word.length := by omega
      rw [e1, e2]; unfold sub; rw [Nat.add_sub_cancel_left]
    refine cw_seq ?_; refine cw_region ?_; refine ol_ev (ev_assign rfl) rfl ?_; refine ol_nil ?_; refine cw_seq ?_; refine cw_region ?_; refine ol_ev (ev_move rfl) rfl ?_; refine ol_ev (ev_move rfl) rfl ?_; refine ol_ev (ev_len_str rfl) rfl ?_; (refine ol_ev (ev_add rfl rfl ?_) rfl ?_; (constructor <;> omega)); refine ol_ev (ev_move rfl) rfl ?_; refine ol_ev (ev_len_str rfl) rfl ?_; refine ol_ev (ev_le rfl rfl) rfl ?_; refine ol_ev (ev_move rfl) rfl ?_
    rw [decide_eq_true (show ((p : Nat) : Int) + ((word.length : Nat) : Int) ≤ ((text.length : Nat) : Int) by omega)]
    refine ol_on rfl rfl rfl ?_; refine ol_ev (ev_move rfl) rfl ?_; refine ol_on rfl rfl rfl ?_; refine ol_ev (ev_move rfl) rfl ?_; refine ol_on rfl rfl rfl ?_; refine ol_ev (ev_move rfl) rfl ?_; refine ol_on rfl rfl rfl ?_; refine ol_ev (ev_move rfl) rfl ?_; refine ol_on rfl rfl rfl ?_; refine ol_ev (ev_len_str rfl) rfl ?_; refine ol_on rfl rfl rfl ?_; (refine ol_ev (ev_add rfl rfl ?_) rfl ?_; (constructor <;> omega)); refine ol_on rfl rfl rfl ?_
    refine ol_ev (ev_slice_str rfl rfl rfl (by omega) (by omega) (by omega)) rfl ?_
    rw [hs]
    refine ol_on rfl rfl rfl ?_; refine ol_ev (ev_move rfl) rfl ?_; refine ol_on rfl rfl rfl ?_; refine ol_ev (ev_eq_str rfl rfl) rfl ?_; refine ol_ev (ev_pick_t rfl rfl) rfl ?_; refine ol_ev (ev_assign rfl) rfl ?_; refine ol_nil ?_; refine cw_ret ?_
    exact ⟨_, res1 rfl rfl, rfl, rfl⟩
  · refine cw_seq ?_; refine cw_region ?_; refine ol_ev (ev_assign rfl) rfl ?_; refine ol_nil ?_; refine cw_seq ?_; refine cw_region ?_; refine ol_ev (ev_move rfl) rfl ?_; refine ol_ev (ev_move rfl) rfl ?_; refine ol_ev (ev_len_str rfl) rfl ?_; (refine ol_ev (ev_add rfl rfl ?_) rfl ?_; (constructor <;> omega)); refine ol_ev (ev_move rfl) rfl ?_; refine ol_ev (ev_len_str rfl) rfl ?_; refine ol_ev (ev_le rfl rfl) rfl ?_; refine ol_ev (ev_move rfl) rfl ?_
    rw [decide_eq_false (show ¬ ((p : Nat) : Int) + ((word.length : Nat) : Int) ≤ ((text.length : Nat) : Int) by omega)]
    (iterate 9 (refine ol_off rfl rfl rfl rfl rfl ?_)); refine ol_ev (ev_pick_f rfl rfl) rfl ?_; refine ol_ev (ev_assign rfl) rfl ?_; refine ol_nil ?_; refine cw_ret ?_
    refine ⟨_, res1 rfl rfl, ?_, rfl⟩
    rw [decide_eq_false]
    intro h2
    have := congrArg List.length h2
    simp at this
    omega

theorem specParts_ct (text x : List UInt8) (hx : x ≠ []) (ts : List (List UInt8)) (hps : PartsOf x text ts) (hl : text.length ≤ 1099511627776) (hxl : x.length ≤ 1099511627776) :
    Ct Tryd.prog W 32 #[str text, str x] [] (fun v H' => ∃ u, v = .agg #[u, .int .i64 0] ∧ StrsAt H' u ts) := by
  have hpos := List.length_pos_iff.2 hx
  refine ct_of_cw (vs := [_, _]) Tryd.func32 rfl rfl fun w1 => ?_
  refine cw_seq ?_; refine cw_region ?_
  refine ol_alloc rfl fun r0' => ?_
  refine ol_nil ?_; refine cw_seq ?_; refine cw_region ?_
  refine ol_slice0 rfl fun ob => ?_
  refine ol_ev (ev_build1 rfl rfl) rfl ?_
  refine ol_alloc rfl fun b3 => ?_
  refine ol_storeS (o := ⟨[.slice none 0 0, .int .i64 0], 41, (0, 0)⟩) (cs := [.slice (some ⟨ob, 0, none⟩) 0 0, .int .i64 0]) rfl rfl rfl (by simp [Value.oneCell']) u0 rfl rfl ?_
  refine ol_nil ?_; refine cw_seq ?_; refine cw_region ?_; refine ol_ev (ev_assign rfl) rfl ?_; refine ol_nil ?_; refine cw_seq ?_; refine cw_seq ?_; refine cw_region ?_; refine ol_ev (ev_assign rfl) rfl ?_; refine ol_nil ?_; refine cw_block ?_
  refine cw_loop (σ := Nat × Nat × Nat × List Value × List (List UInt8) × List (List UInt8)) (fun g => [(0, str text), (1, str x), (4, .pointer (some ⟨r0', 0, none⟩)), (5, .pointer (some ⟨b3, 0, none⟩)), (6, .int .i64 (g.1 : Int)), (7, .int .i64 ((g.1 + g.2.1 : Nat) : Int))])
    (fun g => [(b3, ⟨[.slice (some ⟨g.2.2.1, 0, none⟩) g.2.2.2.2.1.length (g.2.2.2.2.1.length + g.2.2.2.1.length), .int .i64 0], 41, (0, 0)⟩), (g.2.2.1, strO g.2.2.2.2.1 g.2.2.2.1), (r0', ⟨[.slice none 0 0, .int .i64 0], 41, (0, 0)⟩)])
    (fun g => g.1 + g.2.1 ≤ text.length ∧ g.2.2.2.2.1 ++ g.2.2.2.2.2 = ts ∧ g.2.2.2.2.1.length ≤ g.1 ∧ PartsOf x (text.drop g.1) g.2.2.2.2.2 ∧ ∀ j, j < g.2.1 → ((text.drop g.1).drop j).take x.length ≠ x) (fun g => text.length - (g.1 + g.2.1)) (0, 0, ob, [], [], ts) ⟨Nat.zero_le _, rfl, by simp, by simpa using hps, fun j hj => absurd hj (Nat.not_lt_zero _)⟩ (fun a ha => ha.weak ⟨rfl, rfl, rfl, rfl, rfl, rfl, trivial⟩) rfl ?_
  rintro ⟨i, k, ob, sp, ds, ls⟩ ⟨hi, hts, hdl, hpa, hall⟩
  simp only at hi hts hdl hpa hall ⊢
  refine cw_seq ?_; refine cw_seq ?_; refine cw_region ?_; refine ol_ev (ev_move rfl) rfl ?_; refine ol_ev (ev_move rfl) rfl ?_; refine ol_ev (ev_len_str rfl) rfl ?_; refine ol_ev (ev_lt rfl rfl) rfl ?_; refine ol_nil ?_
  refine cw_ifd rfl (fun h2 => ?_) (fun h2 => ?_)
  · have hx' : i + k < text.length := by omega
    refine cw_skip ?_; refine cw_block ?_; refine cw_seq ?_; refine cw_region ?_; (iterate 3 (refine ol_ev (ev_move rfl) rfl ?_))
    refine ol_call3 (G := []) (cap := []) rfl rfl rfl rfl rfl (at_ct text x (i + k) (by omega) hl hxl) (List.Perm.refl _) ?_
    rintro v G' ⟨rfl, rfl⟩
    refine OL.drop ?_
    refine ol_nil ?_
    rw [← List.drop_drop]
    refine cw_ifd rfl (fun h3 => ?_) (fun h3 => ?_)
    · have hf : findW x (text.drop i) = some k := findW_eq hx h3 hall
      have hfs := (findW_some hx hf).1
      rw [List.length_drop] at hfs
      cases hpa with
      | last hn => rw [hf] at hn; cases hn
      | @cons _ k' ls' hf' hrest =>
        rw [hf] at hf'
        cases hf'
        have hsub : sub text ((i : Nat) : Int).toNat ((i + k : Nat) : Int).toNat = (text.drop i).take k := by
          have e1 : ((i : Nat) : Int).toNat = i := by omega
          have e2 : ((i + k : Nat) : Int).toNat = i + k := by omega
          rw [e1, e2]; unfold sub; rw [Nat.add_sub_cancel_left]
        refine cw_seq ?_
        refine cw_floatx [(0, false), (1, false), (2, false), (3, false), (4, false), (5, false), (6, true), (7, true), (8, false)] 9 [(b3, ⟨[.slice (some ⟨ob, 0, none⟩) ds.length (ds.length + sp.length), .int .i64 0], 41, (0, 0)⟩)] mixed (by kernel_rfl) rfl (List.Sublist.cons_cons _ (List.nil_sublist _)) (fun _ _ _ h => h) (fun _ _ h => h) ?_
        refine fl_ev rfl (ev_fld rfl) rfl ?_; refine fl_ev rfl (ev_load rfl m0 rfl) rfl ?_; (iterate 3 (refine fl_ev rfl (ev_move rfl) rfl ?_))
        refine fl_ev rfl (ev_slice_str rfl rfl rfl (by omega) (by omega) (by omega)) rfl ?_
        rw [hsub]
        refine fl_x rfl ?_
        refine ol_slice1 rfl rfl rfl rfl fun b1 => ?_
        refine ol_nil ⟨sub_cons m1 sub_nil, ?_⟩
        refine fl_x rfl ?_
        refine ol_append (xs := ds.map str) (sp := sp) (ys := [str ((text.drop i).take k)]) rfl rfl (fun _ _ => r2) m0 (by simp) (by simp) rfl rfl (by intro u hu; simp only [List.mem_singleton] at hu; subst hu; rfl) rfl (by omega) (by omega) rfl ?_
        intro b' sp'
        refine ol_nil ⟨sub_cons m1 sub_nil, ?_⟩
        refine fl_ev rfl (ev_fld rfl) rfl ?_
        refine fl_nil ?_
        refine OL.less (List.sublist_cons_self _ _) ?_
        refine ol_store rfl rfl rfl u0 rfl rfl ?_; refine ol_nil ?_; refine cw_seq ?_; refine cw_region ?_; refine ol_ev (ev_move rfl) rfl ?_; refine ol_ev (ev_move rfl) rfl ?_; refine ol_ev (ev_len_str rfl) rfl ?_; (refine ol_ev (ev_add rfl rfl ?_) rfl ?_; (constructor <;> omega)); refine ol_ev (ev_assign rfl) rfl ?_; refine ol_nil ?_; refine cw_region ?_; refine ol_ev (ev_move rfl) rfl ?_; refine ol_ev (ev_assign rfl) rfl ?_; refine ol_nil ?_
        refine ⟨(i + k + x.length, 0, b', sp', ds ++ [(text.drop i).take k], ls'), ⟨by show i + k + x.length + 0 ≤ text.length; omega, by simpa using hts, by show (ds ++ [(text.drop i).take k]).length ≤ i + k + x.length; simp; omega, ?_, fun j hj => absurd hj (Nat.not_lt_zero _)⟩, ⟨rfl, rfl, rfl, rfl, rfl, rfl, trivial⟩, ?_, by show text.length - (i + k + x.length + 0) < text.length - (i + k); omega⟩
        · show PartsOf x (text.drop (i + k + x.length)) ls'
          rw [List.drop_drop] at hrest
          rw [Nat.add_assoc]; exact hrest
        · have e1 : (ds.map str ++ [str ((text.drop i).take k)]).length = ds.length + 1 := by simp
          have e2 : ds.map str ++ [str ((text.drop i).take k)] = (ds ++ [(text.drop i).take k]).map str := by simp
          have e3 : (ds ++ [(text.drop i).take k]).length = ds.length + 1 := by simp
          simp only [e1, e3]
          rw [e2]; rfl
    · refine cw_region ?_; refine ol_ev (ev_move rfl) rfl ?_; (refine ol_ev (ev_add rfl rfl ?_) rfl ?_; (constructor <;> omega)); refine ol_ev (ev_assign rfl) rfl ?_; refine ol_nil ?_
      refine ⟨(i, k + 1, ob, sp, ds, ls), ⟨by show i + (k + 1) ≤ text.length; omega, hts, hdl, hpa, fun j hj => ?_⟩, ⟨rfl, rfl, rfl, rfl, rfl, rfl, trivial⟩, rfl, by show text.length - (i + (k + 1)) < text.length - (i + k); omega⟩
      rcases Nat.lt_succ_iff_lt_or_eq.1 hj with hj | rfl
      · exact hall j hj
      · exact h3
  · have hend : i + k = text.length := by omega
    have hn : findW x (text.drop i) = none := findW_nowhere (fun j h => by
      by_cases hj : j < k
      · exact hall j hj h
      · have := congrArg List.length h
        simp at this
        omega) hx
    have hls : ls = [text.drop i] := by
      cases hpa with
      | last => rfl
      | cons hf' => rw [hn] at hf'; cases hf'
    subst hls
    have hi' : ((i : Nat) : Int).toNat = i := by omega
    refine cw_exit ?_; refine cw_seq ?_
    refine cw_floatx [(0, false), (1, false), (2, false), (3, false), (4, false), (5, true), (6, true), (7, false)] 8 [(b3, ⟨[.slice (some ⟨ob, 0, none⟩) ds.length (ds.length + sp.length), .int .i64 0], 41, (0, 0)⟩)] mixed (by kernel_rfl) rfl (List.Sublist.cons_cons _ (List.nil_sublist _)) (fun _ _ _ h => h) (fun _ _ h => h) ?_
    refine fl_ev rfl (ev_fld rfl) rfl ?_; refine fl_ev rfl (ev_load rfl m0 rfl) rfl ?_; refine fl_ev rfl (ev_move rfl) rfl ?_; refine fl_ev rfl (ev_move rfl) rfl ?_
    refine fl_ev rfl (ev_slice_str_from rfl rfl (by omega) (by omega)) rfl ?_
    rw [hi']
    refine fl_x rfl ?_
    refine ol_slice1 rfl rfl rfl rfl fun b1 => ?_
    refine ol_nil ⟨sub_cons m1 sub_nil, ?_⟩
    refine fl_x rfl ?_
    refine ol_append (xs := ds.map str) (sp := sp) (ys := [str (text.drop i)]) rfl rfl (fun _ _ => r2) m0 (by simp) (by simp) rfl rfl (by intro u hu; simp only [List.mem_singleton] at hu; subst hu; rfl) rfl (by omega) (by omega) rfl ?_
    intro b' sp'
    refine ol_nil ⟨sub_cons m1 sub_nil, ?_⟩
    refine fl_ev rfl (ev_fld rfl) rfl ?_
    refine fl_nil ?_
    refine OL.less (List.sublist_cons_self _ _) ?_
    refine ol_store rfl rfl rfl u0 rfl rfl ?_; refine ol_nil ?_; refine cw_seq ?_; refine cw_region ?_
    have e1 : (ds.map str ++ [str (text.drop i)]).length = ds.length + 1 := by simp
    have e2 : ds.map str ++ [str (text.drop i)] = (ds ++ [text.drop i]).map str := by simp
    rw [e1, e2]
    refine ol_ev (ev_loadS (cs := [.slice (some ⟨b', 0, none⟩) (ds.length + 1) (ds.length + 1 + sp'.length), .int .i64 0]) rfl rfl m0 rfl) rfl ?_
    refine ol_storeS (o := ⟨[.slice none 0 0, .int .i64 0], 41, (0, 0)⟩) (cs := [.slice (some ⟨b', 0, none⟩) (ds.length + 1) (ds.length + 1 + sp'.length), .int .i64 0]) rfl rfl rfl (by simp [Value.oneCell']) u2 rfl rfl ?_
    refine ol_nil ?_; refine cw_ret ?_
    refine ⟨_, resC (cs := [.slice (some ⟨b', 0, none⟩) (ds.length + 1) (ds.length + 1 + sp'.length), .int .i64 0]) rfl rfl rfl m2 rfl, _, rfl, b', ds.length + 1 + sp'.length, sp', ?_, ?_, ?_⟩
    · rw [← hts]; simp
    · rw [← hts]; exact m1
    · rw [← hts]; simp
end
end Go.HE
