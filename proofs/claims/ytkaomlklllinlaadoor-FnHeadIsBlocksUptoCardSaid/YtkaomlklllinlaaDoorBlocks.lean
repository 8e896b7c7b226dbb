/- Blocks of bytes, by contracts: the split function, all tokens, the reference. Conditions: the errors are as start-up lays them; the pieces lie in old memory; the text has at most 2 to the 40th bytes. -/
import Derived.Test.YtkaomlklllinlaaDoorBlocksP
import Derived.Test.YtkaomlklllinlaaDoorTexts
import Derived.Test.YtkaomlklllinlaaDoorFork
set_option maxRecDepth 100000
set_option maxHeartbeats 4000000
namespace Go.HE
open Go.RowKit Go.Proofs

theorem strO_at {ts us : List (List UInt8)} {t : List UInt8} {sp : List Value} {k : Nat} (hk : k = ts.length) : (strO (ts ++ t :: us) sp).cells[0 + k]? = some (str t) := by
  subst hk
  show ((ts ++ t :: us).map str ++ sp)[0 + ts.length]? = _
  simp

section
variable {W : World} {E : Nat → Addr}
theorem blocks_ok (nb n : Nat) (h1 : 1 ≤ n) : SplitOk W E 68 [.pointer (some ⟨nb, 0, none⟩)] (kstep n) (fun _ T => (nb, (⟨[.int .i64 (n : Int)], 3, (0, 0)⟩ : HO)) ∈ T) := by
  refine ⟨by kernel_rfl, fun _ _ _ hp h => hp.subset h, fun _ _ _ h => List.mem_cons_of_mem _ h, fun s d e c h => ?_, fun s T bb off dcap cells data atEOF hI hne hdat hle hcap hbig => ?_⟩
  · unfold kstep at h
    split at h
    · cases h
    · split at h <;> cases h
  have hI' : (nb, (⟨[.int .i64 (n : Int)], 3, (0, 0)⟩ : HO)) ∈ (bb, (⟨cells, 5, (0, 0)⟩ : HO)) :: T := List.mem_cons_of_mem _ hI
  refine ct_of_cw (vs := [_, _, _]) Tryd.func68 rfl rfl fun w1 => ?_
  refine cw_seq ?_; refine cw_region ?_; (iterate 3 (refine ol_ev (ev_assign rfl) rfl ?_)); refine ol_nil ?_; refine cw_seq ?_; refine cw_block ?_; refine cw_seq ?_; refine cw_region ?_; refine ol_ev (ev_move rfl) rfl ?_; refine ol_ev (ev_len_s rfl) rfl ?_
  refine ol_ev (ev_load rfl hI' rfl) rfl ?_
  refine ol_ev (ev_ge rfl rfl) rfl ?_; refine ol_ev (ev_assign rfl) rfl ?_; refine ol_nil ?_
  refine cw_ifd rfl (fun hfull => ?_) (fun hfull => ?_)
  · have hf : n ≤ data.length := by omega
    refine cw_seq ?_
    refine cw_still mixed (by kernel_rfl) ?_
    skip
    refine sl_ev (ev_load rfl hI' rfl) rfl ?_
    refine sl_ev (ev_move rfl) rfl ?_
    refine sl_ev (ev_load rfl hI' rfl) rfl ?_
    refine sl_ev (ev_slice_to rfl rfl (by omega) (by omega)) rfl ?_
    (iterate 3 (refine sl_ev (ev_assign rfl) rfl ?_)); refine sl_nil ?_
    refine cw_ret ?_
    refine ⟨_, res3 rfl rfl rfl rfl, ?_⟩
    have hst : kstep n s data atEOF = ⟨n, some (data.take n), none, ()⟩ := by unfold kstep; rw [if_pos hf]
    rw [hst]
    refine ⟨_, T, rfl, rfl, hI, fun _ _ h _ => h, bb, off, dcap, _, ?_, m0, ?_, rfl, by rw [List.length_take]; omega⟩
    · rw [List.length_take, Nat.min_eq_left hf]; rfl
    · rw [List.length_take, Nat.min_eq_left hf]
      have := congrArg (List.take n) hdat
      rw [List.take_take, Nat.min_eq_left hf, bcells_take] at this
      exact this
  · have hf : ¬ n ≤ data.length := by omega
    have hmore : kstep n s data atEOF = ⟨0, none, none, ()⟩ → ∃ tv T', Value.tuple #[.int .i64 0, .slice none 0 0, .nilIface] = .tuple #[.int .i64 (kstep n s data atEOF).adv, tv, errO E (kstep n s data atEOF).err] ∧ (bb, (⟨cells, 5, (0, 0)⟩ : HO)) :: T = (bb, ⟨cells, 5, (0, 0)⟩) :: T' ∧ (nb, (⟨[.int .i64 (n : Int)], 3, (0, 0)⟩ : HO)) ∈ T' ∧ (∀ b o, (b, o) ∈ T → o.elem = 5 → (b, o) ∈ T') ∧ TokO ((bb, (⟨cells, 5, (0, 0)⟩ : HO)) :: T) tv (kstep n s data atEOF).tok := by
      intro h0
      rw [h0]
      exact ⟨_, T, rfl, rfl, hI, fun _ _ h _ => h, rfl⟩
    cases atEOF with
    | false =>
      refine cw_seq ?_; refine cw_region ?_; refine ol_ev (ev_move rfl) rfl ?_; refine ol_ev (ev_move rfl) rfl ?_; (iterate 3 (refine ol_off rfl rfl rfl rfl rfl ?_)); refine ol_ev (ev_pick_f rfl rfl) rfl ?_; refine ol_ev (ev_assign rfl) rfl ?_; refine ol_nil ?_; refine cw_if_f rfl ?_; refine cw_skip ?_; refine cw_seq ?_; refine cw_region ?_; (iterate 3 (refine ol_ev (ev_assign rfl) rfl ?_)); refine ol_nil ?_; refine cw_ret ?_
      exact ⟨_, res3 rfl rfl rfl rfl, hmore (by unfold kstep; rw [if_neg hf, if_neg (by simp)])⟩
    | true =>
      by_cases hd0 : data = []
      · refine cw_seq ?_; refine cw_region ?_; refine ol_ev (ev_move rfl) rfl ?_; refine ol_ev (ev_move rfl) rfl ?_; refine ol_on rfl rfl rfl ?_; refine ol_ev (ev_move rfl) rfl ?_; refine ol_on rfl rfl rfl ?_; refine ol_ev (ev_len_s rfl) rfl ?_; refine ol_on rfl rfl rfl ?_; refine ol_ev (ev_gt rfl rfl) rfl ?_; refine ol_ev (ev_pick_t rfl rfl) rfl ?_; refine ol_ev (ev_assign rfl) rfl ?_; refine ol_nil ?_
        rw [decide_eq_false (show ¬ (0 : Int) < ((data.length : Nat) : Int) by rw [hd0]; simp)]
        refine cw_if_f rfl ?_; refine cw_skip ?_; refine cw_seq ?_; refine cw_region ?_; (iterate 3 (refine ol_ev (ev_assign rfl) rfl ?_)); refine ol_nil ?_; refine cw_ret ?_
        exact ⟨_, res3 rfl rfl rfl rfl, hmore (by unfold kstep; rw [if_neg hf, if_neg (by simp [hd0])])⟩
      · have hp := List.length_pos_iff.2 hd0
        refine cw_seq ?_; refine cw_region ?_; refine ol_ev (ev_move rfl) rfl ?_; refine ol_ev (ev_move rfl) rfl ?_; refine ol_on rfl rfl rfl ?_; refine ol_ev (ev_move rfl) rfl ?_; refine ol_on rfl rfl rfl ?_; refine ol_ev (ev_len_s rfl) rfl ?_; refine ol_on rfl rfl rfl ?_; refine ol_ev (ev_gt rfl rfl) rfl ?_; refine ol_ev (ev_pick_t rfl rfl) rfl ?_; refine ol_ev (ev_assign rfl) rfl ?_; refine ol_nil ?_
        rw [decide_eq_true (show (0 : Int) < ((data.length : Nat) : Int) by omega)]
        refine cw_if_t rfl ?_; refine cw_seq ?_; refine cw_region ?_; refine ol_ev (ev_move rfl) rfl ?_; refine ol_ev (ev_len_s rfl) rfl ?_; refine ol_ev (ev_move rfl) rfl ?_; (iterate 3 (refine ol_ev (ev_assign rfl) rfl ?_)); refine ol_nil ?_; refine cw_ret ?_
        refine ⟨_, res3 rfl rfl rfl rfl, ?_⟩
        have hst : kstep n s data true = ⟨data.length, some data, none, ()⟩ := by unfold kstep; rw [if_neg hf, if_pos ⟨rfl, hd0⟩]
        rw [hst]
        exact ⟨_, T, rfl, rfl, hI, fun _ _ h _ => h, bb, off, dcap, _, rfl, m0, hdat, rfl, hcap⟩

theorem blocksF_ct (nn : Int) (n : Nat) (hn : (n : Int) = max nn 1) :
    Ct Tryd.prog W 48 #[.int .i64 nn] [] (fun v H' => ∃ nb, v = .func (.func 68) #[] [.pointer (some ⟨nb, 0, none⟩)].toArray ∧ H' = [(nb, ⟨[.int .i64 (n : Int)], 3, (0, 0)⟩)]) := by
  refine ct_of_cw (vs := [_]) Tryd.func48 rfl rfl fun w1 => ?_
  refine cw_seq ?_; refine cw_region ?_
  refine ol_box rfl rfl fun nb => ?_
  refine ol_ev (ev_assign rfl) rfl ?_; refine ol_nil ?_; refine cw_seq ?_; refine cw_region ?_; refine ol_ev (ev_load rfl m0 rfl) rfl ?_; refine ol_ev (ev_max rfl rfl) rfl ?_; refine ol_store rfl rfl rfl u0 rfl rfl ?_; refine ol_nil ?_; refine cw_seq ?_; refine cw_region ?_; refine ol_ev (ev_mkfunc1 rfl) rfl ?_; refine ol_ev (ev_assign rfl) rfl ?_; refine ol_nil ?_; refine cw_ret ?_
  refine ⟨_, res1 rfl rfl, nb, rfl, ?_⟩
  rw [hn]; rfl

theorem blocks_ct (hE : Errs W E) (ps : List Int) (text : List UInt8) (pv : Value) (tog : Bool) (c most nn : Int) (n : Nat) (hn : (n : Int) = max nn 1) (ts : List (List UInt8)) (err : Option Nat) (hpv : Pcs W pv ps) (htl : text.length ≤ 1099511627776) (hpl : ps.length ≤ 4611686018427387904) (hmost : most ≤ 9223372036854775807) (hlim : 0 < limitOf c most)
    (hr : Run (Kq n (limitOf c most).toNat) () text ts err) (he : err ≠ some 0) (htn : ts.length ≤ 1099511627776) :
    Ct Tryd.prog W 23 #[.agg #[str text, pv, .bool tog, .bool false], .agg #[.int .i64 c, .int .i64 most], .int .i64 nn] [] (fun v H' => ∃ u, v = .tuple #[u, .int .i64 (codeOf err)] ∧ StrsAt H' u ts) := by
  have h1 : 1 ≤ n := by omega
  obtain ⟨k, x, htk, hx0⟩ := all_toks (kgood (n := n) (L := (limitOf c most).toNat) (by omega) (by omega)) ps hr pv tog c most htl he
  refine ct_of_cw (vs := [_, _, _]) Tryd.func23 rfl rfl fun w1 => ?_
  refine cw_seq ?_; refine cw_region ?_
  refine ol_box rfl rfl fun b3 => ?_
  refine ol_box rfl rfl fun b4 => ?_
  refine ol_ev (ev_assign rfl) rfl ?_; refine ol_ev (ev_assign rfl) rfl ?_; refine ol_nil ?_; refine cw_seq ?_
  refine cw_float [(0, false), (1, false), (2, false), (3, true), (4, true), (5, true), (6, false), (7, false), (8, false), (9, false)] [(b4, ⟨[.int .i64 c, .int .i64 most], 26, (0, 0)⟩), (b3, ⟨[str text, pv, .bool tog, .bool false], 24, (0, 0)⟩)] mixed (by kernel_rfl) (List.Sublist.refl _) (fun _ _ _ h => h) (fun _ _ h => h) ?_
  refine fl_ev rfl (ev_loadS (cs := [str text, pv, .bool tog, .bool false]) rfl rfl m1 rfl) rfl ?_
  refine fl_ev rfl (ev_loadS (cs := [.int .i64 c, .int .i64 most]) rfl rfl m0 rfl) rfl ?_
  refine fl_ev rfl (ev_move rfl) rfl ?_
  refine fl_x rfl ?_
  refine ol_call1 (G := []) (cap := []) rfl rfl rfl (blocksF_ct nn n hn) (List.Perm.refl _) ?_
  rintro v G' ⟨nb, rfl, rfl⟩
  refine ol_nil ⟨sub_right, ?_⟩
  refine fl_x rfl ?_
  refine ol_call3 (G := [(nb, ⟨[.int .i64 (n : Int)], 3, (0, 0)⟩)]) (cap := []) rfl rfl rfl rfl rfl (scanner_ct (E := E) (blocks_ok nb n h1) ps () [(nb, ⟨[.int .i64 (n : Int)], 3, (0, 0)⟩)] text pv tog false c most m0 hpv (by omega) hpl hmost) (List.Perm.refl _) ?_
  rintro v G' ⟨sb, rb, rfl, hready⟩
  refine ol_nil ⟨sub_right, ?_⟩
  refine fl_x rfl ?_
  refine ol_call1 (G := G') (cap := []) rfl rfl rfl (tokens_ct hE (blocks_ok nb n h1) ps k _ false ts x sb rb G' htk hready (by omega)) (List.Perm.refl _) ?_
  rintro v G'' ⟨b, sp, rfl, hmem⟩
  rw [hx0]
  refine ol_nil ⟨sub_right, ?_⟩
  refine fl_ev rfl (ev_extract rfl rfl) rfl ?_; refine fl_ev rfl (ev_extract rfl rfl) rfl ?_; refine fl_ev rfl (ev_assign rfl) rfl ?_; refine fl_ev rfl (ev_assign rfl) rfl ?_
  refine fl_nil ?_
  refine cw_ret ?_
  exact ⟨_, res2 rfl rfl rfl, _, rfl, b, _, sp, rfl, List.mem_append_left _ hmem, Nat.le_add_right _ _⟩

end
end Go.HE
