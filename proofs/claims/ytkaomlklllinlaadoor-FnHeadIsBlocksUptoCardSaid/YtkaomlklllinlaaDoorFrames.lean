/- Frames, by contracts: the split function, all tokens, the reference. Conditions: the errors are as start-up lays them; the pieces lie in old memory; the text has at most 2 to the 40th bytes. -/
import Derived.Test.YtkaomlklllinlaaDoorFramesP
import Derived.Test.YtkaomlklllinlaaDoorBits
import Derived.Test.YtkaomlklllinlaaDoorTexts
set_option maxRecDepth 100000
set_option maxHeartbeats 4000000
namespace Go.HE
open Go.RowKit Go.Proofs

theorem wrap_u8 (b : UInt8) : IntKind.i64.wrap ((b.toNat : Nat) : Int) = ((b.toNat : Nat) : Int) := by
  have := b.toNat_lt
  exact wrap_i64 ⟨by omega, by omega⟩
theorem val_small {d : List UInt8} {w : Nat} (hl : d.length ≤ w) (hw : w ≤ 3) : val d < 16777216 := by
  have h1 := val_lt d d.length rfl
  have h2 : (256 : Nat) ^ d.length ≤ 256 ^ 3 := Nat.pow_le_pow_right (by omega) (by omega)
  omega

section
variable {W : World} {E : Nat → Addr}
theorem frames_ok (hE : Errs W E) (wb w : Nat) (h1 : 1 ≤ w) (h3 : w ≤ 3) : SplitOk W E 86 [.pointer (some ⟨wb, 0, none⟩)] (fstep w) (fun _ T => (wb, (⟨[.int .i64 (w : Int)], 3, (0, 0)⟩ : HO)) ∈ T) := by
  refine ⟨by kernel_rfl, fun _ _ _ hp h => hp.subset h, fun _ _ _ h => List.mem_cons_of_mem _ h, fun s d e c h => ?_, fun s T bb off dcap cells data atEOF hI hne hdat hle hcap hbig => ?_⟩
  · unfold fstep at h
    split at h
    · cases h
    · split at h
      · cases h; omega
      · cases h
  have hI' : (wb, (⟨[.int .i64 (w : Int)], 3, (0, 0)⟩ : HO)) ∈ (bb, (⟨cells, 5, (0, 0)⟩ : HO)) :: T := List.mem_cons_of_mem _ hI
  refine ct_of_cw (vs := [_, _, _]) Tryd.func86 rfl rfl fun w1 => ?_
  refine cw_seq ?_
  refine cw_region ?_; (iterate 3 (refine ol_ev (ev_assign rfl) rfl ?_)); refine ol_nil ?_
  refine cw_seq ?_
  refine cw_region ?_
  refine ol_ev (ev_load rfl hI' rfl) rfl ?_
  refine ol_ev (ev_assign rfl) rfl ?_; refine ol_nil ?_
  have hneed : fneed w data < 16777220 := by
    unfold fneed
    have := val_small (d := data.take w) (w := w) (by simp; omega) h3
    split <;> omega
  refine cw_cut (fun l' H' => SubE l' [(0, .slice (some ⟨bb, off, none⟩) data.length dcap), (1, .bool atEOF), (2, .pointer (some ⟨wb, 0, none⟩)), (8, .int .i64 (fneed w data : Int))] ∧ H' = (bb, ⟨cells, 5, (0, 0)⟩) :: T) ?_ ?_
  · refine cw_seq ?_
    refine cw_region ?_; refine ol_ev (ev_move rfl) rfl ?_; refine ol_ev (ev_len_s rfl) rfl ?_
    refine ol_ev (ev_load rfl hI' rfl) rfl ?_
    refine ol_ev (ev_ge rfl rfl) rfl ?_; refine ol_nil ?_
    refine cw_ifd rfl (fun hlt => ?_) (fun hlt => ?_)
    · have hwd : w ≤ data.length := by omega
      refine cw_seq ?_; refine cw_region ?_; refine ol_ev (ev_assign rfl) rfl ?_; refine ol_nil ?_; refine cw_seq ?_; refine cw_seq ?_; refine cw_region ?_; refine ol_ev (ev_move rfl) rfl ?_
      refine ol_ev (ev_load rfl hI' rfl) rfl ?_
      refine ol_ev (ev_slice_to rfl rfl (by omega) (by omega)) rfl ?_
      refine ol_ev (ev_len_s rfl) rfl ?_; refine ol_ev (ev_move rfl) rfl ?_; refine ol_nil ?_; refine cw_block ?_
      refine cw_loop (σ := Nat) (fun i => [(0, .slice (some ⟨bb, off, none⟩) data.length dcap), (1, .bool atEOF), (2, .pointer (some ⟨wb, 0, none⟩)), (8, .int .i64 (w : Int)), (9, .int .i64 (val (data.take i) : Int)), (19, .slice (some ⟨bb, off, none⟩) w dcap), (20, .int .i64 (w : Int)), (21, .int .i64 (i : Int))]) (fun _ => (bb, ⟨cells, 5, (0, 0)⟩) :: T)
        (fun i => i ≤ w) (fun i => w - i) 0 (Nat.zero_le _) (fun a ha => ha.weak ⟨rfl, rfl, rfl, rfl, rfl, rfl, rfl, rfl, trivial⟩) rfl ?_
      intro i hi
      refine cw_seq ?_; refine cw_region ?_; refine ol_ev (ev_lt rfl rfl) rfl ?_; refine ol_nil ?_; refine cw_seq ?_
      refine cw_ifd rfl (fun h2 => ?_) (fun h2 => ?_)
      · have hx : i < data.length := by omega
        have hv := val_small (d := data.take i) (w := w) (by simp; omega) h3
        have hb := data[i].toNat_lt
        have k1 : cells[off + ((i : Nat) : Int).toNat]? = some (bv data[i]) := cell_at hdat hx
        refine cw_skip ?_; refine cw_seq ?_; refine cw_block ?_; refine cw_seq ?_; refine cw_region ?_
        refine ol_ev (ev_idx1 rfl rfl (by omega) (by omega)) rfl ?_
        refine ol_ev (ev_load rfl m0 k1) rfl ?_
        refine ol_ev (ev_assign rfl) rfl ?_; refine ol_nil ?_; refine cw_region ?_; refine ol_ev (ev_move rfl) rfl ?_
        refine ol_ev (ev_shl (k := 8) rfl rfl (by omega) (by constructor <;> omega)) rfl ?_
        refine ol_ev (ev_move rfl) rfl ?_
        refine ol_ev (ev_conv_int rfl (wrap_u8 _)) rfl ?_
        refine ol_ev (ev_or8 rfl rfl hb (by omega)) rfl ?_
        refine ol_ev (ev_assign rfl) rfl ?_; refine ol_nil ?_; refine cw_region ?_; (refine ol_ev (ev_add rfl rfl ?_) rfl ?_; (constructor <;> omega)); refine ol_ev (ev_move rfl) rfl ?_; refine ol_nil ?_
        refine ⟨i + 1, by omega, ⟨rfl, rfl, rfl, rfl, ?_, rfl, rfl, rfl, trivial⟩, rfl, by omega⟩
        rw [take_snoc hx, val_snoc]; rfl
      · have hiw : i = w := by omega
        subst hiw
        have hv := val_small (d := data.take i) (w := i) (by simp; omega) h3
        refine cw_exit ?_; refine cw_region ?_; refine ol_ev (ev_move rfl) rfl ?_; refine ol_ev (ev_move rfl) rfl ?_; (refine ol_ev (ev_add rfl rfl ?_) rfl ?_; (constructor <;> omega)); refine ol_ev (ev_assign rfl) rfl ?_; refine ol_nil ?_
        refine ⟨⟨rfl, rfl, rfl, ?_, trivial⟩, rfl⟩
        unfold fneed
        rw [if_pos hwd]; rfl
    · refine cw_skip ?_
      refine ⟨⟨rfl, rfl, rfl, ?_, trivial⟩, rfl⟩
      unfold fneed
      rw [if_neg (by omega)]; rfl
  · rintro l' H' ⟨hl', rfl⟩
    refine CW.weak hl' ?_
    refine cw_seq ?_; refine cw_block ?_; refine cw_seq ?_; refine cw_region ?_; refine ol_ev (ev_move rfl) rfl ?_; refine ol_ev (ev_len_s rfl) rfl ?_; refine ol_ev (ev_move rfl) rfl ?_; refine ol_ev (ev_ge rfl rfl) rfl ?_; refine ol_ev (ev_assign rfl) rfl ?_; refine ol_nil ?_
    refine cw_ifd rfl (fun hfull => ?_) (fun hfull => ?_)
    · have hf : fneed w data ≤ data.length := by omega
      have hwn : w ≤ fneed w data := by unfold fneed; split <;> omega
      refine cw_seq ?_
      refine cw_still mixed (by kernel_rfl) ?_
      refine sl_ev (ev_move rfl) rfl ?_; refine sl_ev (ev_move rfl) rfl ?_
      refine sl_ev (ev_load rfl hI' rfl) rfl ?_
      refine sl_ev (ev_move rfl) rfl ?_
      refine sl_ev (ev_slice rfl rfl rfl (by omega) (by omega) (by omega)) rfl ?_
      (iterate 3 (refine sl_ev (ev_assign rfl) rfl ?_)); refine sl_nil ?_
      refine cw_ret ?_
      refine ⟨_, res3 rfl rfl rfl rfl, ?_⟩
      have hst : fstep w s data atEOF = ⟨fneed w data, some ((data.take (fneed w data)).drop w), none, ()⟩ := by unfold fstep; rw [if_pos hf]
      rw [hst]
      have hlen : ((data.take (fneed w data)).drop w).length = fneed w data - w := by simp; omega
      refine ⟨_, T, rfl, rfl, hI, fun _ _ h _ => h, bb, (if dcap = w then off else off + w), dcap - w, _, ?_, m0, ?_, rfl, by rw [hlen]; omega⟩
      · rw [hlen]; rfl
      · rw [hlen]
        show (cells.drop (if dcap = w then off else off + w)).take (fneed w data - w) = _
        by_cases hc : dcap = w
        · have : fneed w data - w = 0 := by omega
          rw [this, List.take_zero]
          rw [this] at hlen
          rw [List.length_eq_zero_iff.1 hlen]; rfl
        · rw [if_neg hc, ← bcells_drop, ← bcells_take, ← hdat, ← List.drop_drop, List.take_take, Nat.min_eq_left hf, List.drop_take]
    · have hf : ¬ fneed w data ≤ data.length := by omega
      cases atEOF with
      | false =>
        refine cw_seq ?_; refine cw_region ?_; refine ol_ev (ev_move rfl) rfl ?_; refine ol_ev (ev_move rfl) rfl ?_; (iterate 3 (refine ol_off rfl rfl rfl rfl rfl ?_)); refine ol_ev (ev_pick_f rfl rfl) rfl ?_; refine ol_ev (ev_assign rfl) rfl ?_; refine ol_nil ?_; refine cw_if_f rfl ?_; refine cw_skip ?_; refine cw_seq ?_; refine cw_region ?_; (iterate 3 (refine ol_ev (ev_assign rfl) rfl ?_)); refine ol_nil ?_; refine cw_ret ?_
        refine ⟨_, res3 rfl rfl rfl rfl, ?_⟩
        have hst : fstep w s data false = ⟨0, none, none, ()⟩ := by unfold fstep; rw [if_neg hf, if_neg (by simp)]
        rw [hst]
        exact ⟨_, T, rfl, rfl, hI, fun _ _ h _ => h, rfl⟩
      | true =>
        by_cases hd0 : data = []
        · refine cw_seq ?_; refine cw_region ?_; refine ol_ev (ev_move rfl) rfl ?_; refine ol_ev (ev_move rfl) rfl ?_; refine ol_on rfl rfl rfl ?_; refine ol_ev (ev_move rfl) rfl ?_; refine ol_on rfl rfl rfl ?_; refine ol_ev (ev_len_s rfl) rfl ?_; refine ol_on rfl rfl rfl ?_; refine ol_ev (ev_gt rfl rfl) rfl ?_; refine ol_ev (ev_pick_t rfl rfl) rfl ?_; refine ol_ev (ev_assign rfl) rfl ?_; refine ol_nil ?_
          rw [decide_eq_false (show ¬ (0 : Int) < ((data.length : Nat) : Int) by rw [hd0]; simp)]
          refine cw_if_f rfl ?_; refine cw_skip ?_; refine cw_seq ?_; refine cw_region ?_; (iterate 3 (refine ol_ev (ev_assign rfl) rfl ?_)); refine ol_nil ?_; refine cw_ret ?_
          refine ⟨_, res3 rfl rfl rfl rfl, ?_⟩
          have hst : fstep w s data true = ⟨0, none, none, ()⟩ := by unfold fstep; rw [if_neg hf, if_neg (by simp [hd0])]
          rw [hst]
          exact ⟨_, T, rfl, rfl, hI, fun _ _ h _ => h, rfl⟩
        · have hp := List.length_pos_iff.2 hd0
          refine cw_seq ?_; refine cw_region ?_; refine ol_ev (ev_move rfl) rfl ?_; refine ol_ev (ev_move rfl) rfl ?_; refine ol_on rfl rfl rfl ?_; refine ol_ev (ev_move rfl) rfl ?_; refine ol_on rfl rfl rfl ?_; refine ol_ev (ev_len_s rfl) rfl ?_; refine ol_on rfl rfl rfl ?_; refine ol_ev (ev_gt rfl rfl) rfl ?_; refine ol_ev (ev_pick_t rfl rfl) rfl ?_; refine ol_ev (ev_assign rfl) rfl ?_; refine ol_nil ?_
          rw [decide_eq_true (show (0 : Int) < ((data.length : Nat) : Int) by omega)]
          refine cw_if_t rfl ?_; refine cw_seq ?_
          refine cw_still mixed (by kernel_rfl) ?_
          refine sl_ev (ev_loadW rfl hE.c7) rfl ?_
          (iterate 3 (refine sl_ev (ev_assign rfl) rfl ?_)); refine sl_nil ?_
          refine cw_ret ?_
          refine ⟨_, res3 rfl rfl rfl rfl, ?_⟩
          have hst : fstep w s data true = ⟨0, none, some 7, ()⟩ := by unfold fstep; rw [if_neg hf, if_pos ⟨rfl, hd0⟩]
          rw [hst]
          exact ⟨_, T, rfl, rfl, hI, fun _ _ h _ => h, rfl⟩

theorem framesF_ct (width : Int) (w : Nat) (hw : (w : Int) = min (max width 1) 3) :
    Ct Tryd.prog W 72 #[.int .i64 width] [] (fun v H' => ∃ wb, v = .func (.func 86) #[] [.pointer (some ⟨wb, 0, none⟩)].toArray ∧ H' = [(wb, ⟨[.int .i64 (w : Int)], 3, (0, 0)⟩)]) := by
  refine ct_of_cw (vs := [_]) Tryd.func72 rfl rfl fun w1 => ?_
  refine cw_seq ?_; refine cw_region ?_
  refine ol_box rfl rfl fun wb => ?_
  refine ol_ev (ev_assign rfl) rfl ?_; refine ol_nil ?_; refine cw_seq ?_; refine cw_region ?_; refine ol_ev (ev_load rfl m0 rfl) rfl ?_; refine ol_ev (ev_max rfl rfl) rfl ?_; refine ol_ev (ev_min rfl rfl) rfl ?_; refine ol_store rfl rfl rfl u0 rfl rfl ?_; refine ol_nil ?_; refine cw_seq ?_; refine cw_region ?_; refine ol_ev (ev_mkfunc1 rfl) rfl ?_; refine ol_ev (ev_assign rfl) rfl ?_; refine ol_nil ?_; refine cw_ret ?_
  refine ⟨_, res1 rfl rfl, wb, rfl, ?_⟩
  rw [hw]; rfl

end
end Go.HE
