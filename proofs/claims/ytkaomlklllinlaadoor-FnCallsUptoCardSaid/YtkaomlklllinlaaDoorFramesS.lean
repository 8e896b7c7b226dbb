/- Frames: the reference and the room, by contracts. Condition: the text has at most 2 to the 40th bytes. -/
import Derived.Test.YtkaomlklllinlaaDoorFramesP
import Derived.Test.YtkaomlklllinlaaDoorAll
/- Frames, by contracts: the split function, all tokens, the reference. Conditions: the errors are as start-up lays them; the pieces lie in old memory; the text has at most 2 to the 40th bytes. -/
set_option maxRecDepth 100000
set_option maxHeartbeats 4000000
namespace Go.HE
open Go.RowKit Go.Proofs

theorem wrap_u8 (b : UInt8) : IntKind.i64.wrap ((b.toNat : Nat) : Int) = ((b.toNat : Nat) : Int) := by
  have := b.toNat_lt
  exact wrap_i64 ⟨by omega, by omega⟩
theorem val_small {d : List UInt8} {w : Nat} (hl : d.length ≤ w) (hw : w ≤ 3) : val d < 16777216 := by
  have h1 := val_lt d d.length rfl
  have h2 : (256 : Nat) ^ d.length ≤ 256 ^ 3 := Nat.pow_le_pow_right (by omega) (by omega)
  omega

section
variable {W : World} {E : Nat → Addr}
theorem frames_ok (hE : Errs W E) (wb w : Nat) (h1 : 1 ≤ w) (h3 : w ≤ 3) : SplitOk W E 86 [.pointer (some ⟨wb, 0, none⟩)] (fstep w) (fun _ T => (wb, (⟨[.int .i64 (w : Int)], 3, (0, 0)⟩ : HO)) ∈ T) := by
  refine ⟨by kernel_rfl, fun _ _ _ hp h => hp.subset h, fun _ _ _ h => List.mem_cons_of_mem _ h, fun s d e c h => ?_, fun s T bb off dcap cells data atEOF hI hne hdat hle hcap hbig => ?_⟩
  · unfold fstep at h
    split at h
    · cases h
    · split at h
      · cases h; omega
      · cases h
  have hI' : (wb, (⟨[.int .i64 (w : Int)], 3, (0, 0)⟩ : HO)) ∈ (bb, (⟨cells, 5, (0, 0)⟩ : HO)) :: T := List.mem_cons_of_mem _ hI
  refine ct_of_cw (vs := [_, _, _]) Tryd.func86 rfl rfl fun w1 => ?_
  refine cw_seq ?_
  refine cw_region ?_; (iterate 3 (refine ol_ev (ev_assign rfl) rfl ?_)); refine ol_nil ?_
  refine cw_seq ?_
  refine cw_region ?_
  refine ol_ev (ev_load rfl hI' rfl) rfl ?_
  refine ol_ev (ev_assign rfl) rfl ?_; refine ol_nil ?_
  have hneed : fneed w data < 16777220 := by
    unfold fneed
    have := val_small (d := data.take w) (w := w) (by simp; omega) h3
    split <;> omega
  refine cw_cut (fun l' H' => SubE l' [(0, .slice (some ⟨bb, off, none⟩) data.length dcap), (1, .bool atEOF), (2, .pointer (some ⟨wb, 0, none⟩)), (8, .int .i64 (fneed w data : Int))] ∧ H' = (bb, ⟨cells, 5, (0, 0)⟩) :: T) ?_ ?_
  · refine cw_seq ?_
    refine cw_region ?_; refine ol_ev (ev_move rfl) rfl ?_; refine ol_ev (ev_len_s rfl) rfl ?_
    refine ol_ev (ev_load rfl hI' rfl) rfl ?_
    refine ol_ev (ev_ge rfl rfl) rfl ?_; refine ol_nil ?_
    refine cw_ifd rfl (fun hlt => ?_) (fun hlt => ?_)
    · have hwd : w ≤ data.length := by omega
      refine cw_seq ?_; refine cw_region ?_; refine ol_ev (ev_assign rfl) rfl ?_; refine ol_nil ?_; refine cw_seq ?_; refine cw_seq ?_; refine cw_region ?_; refine ol_ev (ev_move rfl) rfl ?_
      refine ol_ev (ev_load rfl hI' rfl) rfl ?_
      refine ol_ev (ev_slice_to rfl rfl (by omega) (by omega)) rfl ?_
      refine ol_ev (ev_len_s rfl) rfl ?_; refine ol_ev (ev_move rfl) rfl ?_; refine ol_nil ?_; refine cw_block ?_
      refine cw_loop (σ := Nat) (fun i => [(0, .slice (some ⟨bb, off, none⟩) data.length dcap), (1, .bool atEOF), (2, .pointer (some ⟨wb, 0, none⟩)), (8, .int .i64 (w : Int)), (9, .int .i64 (val (data.take i) : Int)), (19, .slice (some ⟨bb, off, none⟩) w dcap), (20, .int .i64 (w : Int)), (21, .int .i64 (i : Int))]) (fun _ => (bb, ⟨cells, 5, (0, 0)⟩) :: T)
        (fun i => i ≤ w) (fun i => w - i) 0 (Nat.zero_le _) (fun a ha => ha.weak ⟨rfl, rfl, rfl, rfl, rfl, rfl, rfl, rfl, trivial⟩) rfl ?_
      intro i hi
      refine cw_seq ?_; refine cw_region ?_; refine ol_ev (ev_lt rfl rfl) rfl ?_; refine ol_nil ?_; refine cw_seq ?_
      refine cw_ifd rfl (fun h2 => ?_) (fun h2 => ?_)
      · have hx : i < data.length := by omega
        have hv := val_small (d := data.take i) (w := w) (by simp; omega) h3
        have hb := data[i].toNat_lt
        have k1 : cells[off + ((i : Nat) : Int).toNat]? = some (bv data[i]) := cell_at hdat hx
        refine cw_skip ?_; refine cw_seq ?_; refine cw_block ?_; refine cw_seq ?_; refine cw_region ?_
        refine ol_ev (ev_idx1 rfl rfl (by omega) (by omega)) rfl ?_
        refine ol_ev (ev_load rfl m0 k1) rfl ?_
        refine ol_ev (ev_assign rfl) rfl ?_; refine ol_nil ?_; refine cw_region ?_; refine ol_ev (ev_move rfl) rfl ?_
        refine ol_ev (ev_shl (k := 8) rfl rfl (by omega) (by constructor <;> omega)) rfl ?_
        refine ol_ev (ev_move rfl) rfl ?_
        refine ol_ev (ev_conv_int rfl (wrap_u8 _)) rfl ?_
        refine ol_ev (ev_or8 rfl rfl hb (by omega)) rfl ?_
        refine ol_ev (ev_assign rfl) rfl ?_; refine ol_nil ?_; refine cw_region ?_; (refine ol_ev (ev_add rfl rfl ?_) rfl ?_; (constructor <;> omega)); refine ol_ev (ev_move rfl) rfl ?_; refine ol_nil ?_
        refine ⟨i + 1, by omega, ⟨rfl, rfl, rfl, rfl, ?_, rfl, rfl, rfl, trivial⟩, rfl, by omega⟩
        rw [take_snoc hx, val_snoc]; rfl
      · have hiw : i = w := by omega
        subst hiw
        have hv := val_small (d := data.take i) (w := i) (by simp; omega) h3
        refine cw_exit ?_; refine cw_region ?_; refine ol_ev (ev_move rfl) rfl ?_; refine ol_ev (ev_move rfl) rfl ?_; (refine ol_ev (ev_add rfl rfl ?_) rfl ?_; (constructor <;> omega)); refine ol_ev (ev_assign rfl) rfl ?_; refine ol_nil ?_
        refine ⟨⟨rfl, rfl, rfl, ?_, trivial⟩, rfl⟩
        unfold fneed
        rw [if_pos hwd]; rfl
    · refine cw_skip ?_
      refine ⟨⟨rfl, rfl, rfl, ?_, trivial⟩, rfl⟩
      unfold fneed
      rw [if_neg (by omega)]; rfl
  · rintro l' H' ⟨hl', rfl⟩
    refine CW.weak hl' ?_
    refine cw_seq ?_; refine cw_block ?_; refine cw_seq ?_; refine cw_region ?_; refine ol_ev (ev_move rfl) rfl ?_; refine ol_ev (ev_len_s rfl) rfl ?_; refine ol_ev (ev_move rfl) rfl ?_; refine ol_ev (ev_ge rfl rfl) rfl ?_; refine ol_ev (ev_assign rfl) rfl ?_; refine ol_nil ?_
    refine cw_ifd rfl (fun hfull => ?_) (fun hfull => ?_)
    · have hf : fneed w data ≤ data.length := by omega
      have hwn : w ≤ fneed w data := by unfold fneed; split <;> omega
      refine cw_seq ?_
      refine cw_still mixed (by kernel_rfl) ?_
      refine sl_ev (ev_move rfl) rfl ?_; refine sl_ev (ev_move rfl) rfl ?_
      refine sl_ev (ev_load rfl hI' rfl) rfl ?_
      refine sl_ev (ev_move rfl) rfl ?_
      refine sl_ev (ev_slice rfl rfl rfl (by omega) (by omega) (by omega)) rfl ?_
      (iterate 3 (refine sl_ev (ev_assign rfl) rfl ?_)); refine sl_nil ?_
      refine cw_ret ?_
      refine ⟨_, res3 rfl rfl rfl rfl, ?_⟩
      have hst : fstep w s data atEOF = ⟨fneed w data, some ((data.take (fneed w data)).drop w), none, ()⟩ := by unfold fstep; rw [if_pos hf]
      rw [hst]
      have hlen : ((data.take (fneed w data)).drop w).length = fneed w data - w := by simp; omega
      refine ⟨_, T, rfl, rfl, hI, fun _ _ h _ => h, bb, (if dcap = w then off else off + w), dcap - w, _, ?_, m0, ?_, rfl, by rw [hlen]; omega⟩
      · rw [hlen]; rfl
      · rw [hlen]
        show (cells.drop (if dcap = w then off else off + w)).take (fneed w data - w) = _
        by_cases hc : dcap = w
        · have : fneed w data - w = 0 := by omega
          rw [this, List.take_zero]
          rw [this] at hlen
          rw [List.length_eq_zero_iff.1 hlen]; rfl
        · rw [if_neg hc, ← bcells_drop, ← bcells_take, ← hdat, ← List.drop_drop, List.take_take, Nat.min_eq_left hf, List.drop_take]
    · have hf : ¬ fneed w data ≤ data.length := by omega
      cases atEOF with
      | false =>
        refine cw_seq ?_; refine cw_region ?_; refine ol_ev (ev_move rfl) rfl ?_; refine ol_ev (ev_move rfl) rfl ?_; (iterate 3 (refine ol_off rfl rfl rfl rfl rfl ?_)); refine ol_ev (ev_pick_f rfl rfl) rfl ?_; refine ol_ev (ev_assign rfl) rfl ?_; refine ol_nil ?_; refine cw_if_f rfl ?_; refine cw_skip ?_; refine cw_seq ?_; refine cw_region ?_; (iterate 3 (refine ol_ev (ev_assign rfl) rfl ?_)); refine ol_nil ?_; refine cw_ret ?_
        refine ⟨_, res3 rfl rfl rfl rfl, ?_⟩
        have hst : fstep w s data false = ⟨0, none, none, ()⟩ := by unfold fstep; rw [if_neg hf, if_neg (by simp)]
        rw [hst]
        exact ⟨_, T, rfl, rfl, hI, fun _ _ h _ => h, rfl⟩
      | true =>
        by_cases hd0 : data = []
        · refine cw_seq ?_; refine cw_region ?_; refine ol_ev (ev_move rfl) rfl ?_; refine ol_ev (ev_move rfl) rfl ?_; refine ol_on rfl rfl rfl ?_; refine ol_ev (ev_move rfl) rfl ?_; refine ol_on rfl rfl rfl ?_; refine ol_ev (ev_len_s rfl) rfl ?_; refine ol_on rfl rfl rfl ?_; refine ol_ev (ev_gt rfl rfl) rfl ?_; refine ol_ev (ev_pick_t rfl rfl) rfl ?_; refine ol_ev (ev_assign rfl) rfl ?_; refine ol_nil ?_
          rw [decide_eq_false (show ¬ (0 : Int) < ((data.length : Nat) : Int) by rw [hd0]; simp)]
          refine cw_if_f rfl ?_; refine cw_skip ?_; refine cw_seq ?_; refine cw_region ?_; (iterate 3 (refine ol_ev (ev_assign rfl) rfl ?_)); refine ol_nil ?_; refine cw_ret ?_
          refine ⟨_, res3 rfl rfl rfl rfl, ?_⟩
          have hst : fstep w s data true = ⟨0, none, none, ()⟩ := by unfold fstep; rw [if_neg hf, if_neg (by simp [hd0])]
          rw [hst]
          exact ⟨_, T, rfl, rfl, hI, fun _ _ h _ => h, rfl⟩
        · have hp := List.length_pos_iff.2 hd0
          refine cw_seq ?_; refine cw_region ?_; refine ol_ev (ev_move rfl) rfl ?_; refine ol_ev (ev_move rfl) rfl ?_; refine ol_on rfl rfl rfl ?_; refine ol_ev (ev_move rfl) rfl ?_; refine ol_on rfl rfl rfl ?_; refine ol_ev (ev_len_s rfl) rfl ?_; refine ol_on rfl rfl rfl ?_; refine ol_ev (ev_gt rfl rfl) rfl ?_; refine ol_ev (ev_pick_t rfl rfl) rfl ?_; refine ol_ev (ev_assign rfl) rfl ?_; refine ol_nil ?_
          rw [decide_eq_true (show (0 : Int) < ((data.length : Nat) : Int) by omega)]
          refine cw_if_t rfl ?_; refine cw_seq ?_
          refine cw_still mixed (by kernel_rfl) ?_
          refine sl_ev (ev_loadW rfl hE.c7) rfl ?_
          (iterate 3 (refine sl_ev (ev_assign rfl) rfl ?_)); refine sl_nil ?_
          refine cw_ret ?_
          refine ⟨_, res3 rfl rfl rfl rfl, ?_⟩
          have hst : fstep w s data true = ⟨0, none, some 7, ()⟩ := by unfold fstep; rw [if_neg hf, if_pos ⟨rfl, hd0⟩]
          rw [hst]
          exact ⟨_, T, rfl, rfl, hI, fun _ _ h _ => h, rfl⟩

theorem framesF_ct (width : Int) (w : Nat) (hw : (w : Int) = min (max width 1) 3) :
    Ct Tryd.prog W 72 #[.int .i64 width] [] (fun v H' => ∃ wb, v = .func (.func 86) #[] [.pointer (some ⟨wb, 0, none⟩)].toArray ∧ H' = [(wb, ⟨[.int .i64 (w : Int)], 3, (0, 0)⟩)]) := by
  refine ct_of_cw (vs := [_]) Tryd.func72 rfl rfl fun w1 => ?_
  refine cw_seq ?_; refine cw_region ?_
  refine ol_box rfl rfl fun wb => ?_
  refine ol_ev (ev_assign rfl) rfl ?_; refine ol_nil ?_; refine cw_seq ?_; refine cw_region ?_; refine ol_ev (ev_load rfl m0 rfl) rfl ?_; refine ol_ev (ev_max rfl rfl) rfl ?_; refine ol_ev (ev_min rfl rfl) rfl ?_; refine ol_store rfl rfl rfl u0 rfl rfl ?_; refine ol_nil ?_; refine cw_seq ?_; refine cw_region ?_; refine ol_ev (ev_mkfunc1 rfl) rfl ?_; refine ol_ev (ev_assign rfl) rfl ?_; refine ol_nil ?_; refine cw_ret ?_
  refine ⟨_, res1 rfl rfl, wb, rfl, ?_⟩
  rw [hw]; rfl

end
end Go.HE

set_option maxRecDepth 100000
set_option maxHeartbeats 4000000
namespace Go.HE
open Go.RowKit Go.Proofs
section
variable {W : World} {E : Nat → Addr}
theorem wide_ct (width : Int) (w : Nat) (hw : (w : Int) = min (max width 1) 3) : Ct Tryd.prog W 35 #[.int .i64 width] [] (fun v H' => v = .int .i64 (w : Int) ∧ H' = []) := by
  refine ct_of_cw (vs := [_]) Tryd.func35 rfl rfl fun w1 => ?_
  refine cw_seq ?_; refine cw_region ?_; refine ol_ev (ev_assign rfl) rfl ?_; refine ol_nil ?_; refine cw_seq ?_; refine cw_seq ?_; refine cw_region ?_; refine ol_ev (ev_move rfl) rfl ?_; refine ol_ev (ev_lt rfl rfl) rfl ?_; refine ol_nil ?_
  refine cw_ifd rfl (fun h => ?_) (fun h => ?_)
  · refine cw_seq ?_; refine cw_region ?_; refine ol_ev (ev_assign rfl) rfl ?_; refine ol_nil ?_; refine cw_ret ?_
    have e : (w : Int) = 1 := by omega
    exact ⟨_, res1 rfl rfl, by rw [e], rfl⟩
  · refine cw_skip ?_; refine cw_seq ?_; refine cw_seq ?_; refine cw_region ?_; refine ol_ev (ev_move rfl) rfl ?_; refine ol_ev (ev_gt rfl rfl) rfl ?_; refine ol_nil ?_
    refine cw_ifd rfl (fun h2 => ?_) (fun h2 => ?_)
    · refine cw_seq ?_; refine cw_region ?_; refine ol_ev (ev_assign rfl) rfl ?_; refine ol_nil ?_; refine cw_ret ?_
      have e : (w : Int) = 3 := by omega
      exact ⟨_, res1 rfl rfl, by rw [e], rfl⟩
    · refine cw_skip ?_; refine cw_seq ?_; refine cw_region ?_; refine ol_ev (ev_move rfl) rfl ?_; refine ol_ev (ev_assign rfl) rfl ?_; refine ol_nil ?_; refine cw_ret ?_
      have e : (w : Int) = width := by omega
      exact ⟨_, res1 rfl rfl, by rw [e], rfl⟩

theorem long_bad_ct (text : List UInt8) (w : Nat) (h : text.length < w) : Ct Tryd.prog W 62 #[str text, .int .i64 (w : Int)] [] (fun v H' => v = .tuple #[.int .i64 0, .bool false] ∧ H' = []) := by
  refine ct_of_cw (vs := [_, _]) Tryd.func62 rfl rfl fun w1 => ?_
  refine cw_seq ?_; refine cw_region ?_; refine ol_ev (ev_assign rfl) rfl ?_; refine ol_ev (ev_assign rfl) rfl ?_; refine ol_nil ?_; refine cw_seq ?_; refine cw_seq ?_; refine cw_region ?_; refine ol_ev (ev_move rfl) rfl ?_; refine ol_ev (ev_len_str rfl) rfl ?_; refine ol_ev (ev_move rfl) rfl ?_; refine ol_ev (ev_lt rfl rfl) rfl ?_; refine ol_nil ?_
  rw [decide_eq_true (show ((text.length : Nat) : Int) < ((w : Nat) : Int) by omega)]
  refine cw_if_t rfl ?_; refine cw_seq ?_; refine cw_region ?_; refine ol_ev (ev_assign rfl) rfl ?_; refine ol_ev (ev_assign rfl) rfl ?_; refine ol_nil ?_; refine cw_ret ?_
  exact ⟨_, res2 rfl rfl rfl, rfl, rfl⟩
theorem long_ct (text : List UInt8) (w : Nat) (h : w ≤ text.length) (h3 : w ≤ 3) : Ct Tryd.prog W 62 #[str text, .int .i64 (w : Int)] [] (fun v H' => v = .tuple #[.int .i64 (val (text.take w) : Int), .bool true] ∧ H' = []) := by
  refine ct_of_cw (vs := [_, _]) Tryd.func62 rfl rfl fun w1 => ?_
  refine cw_seq ?_; refine cw_region ?_; refine ol_ev (ev_assign rfl) rfl ?_; refine ol_ev (ev_assign rfl) rfl ?_; refine ol_nil ?_; refine cw_seq ?_; refine cw_seq ?_; refine cw_region ?_; refine ol_ev (ev_move rfl) rfl ?_; refine ol_ev (ev_len_str rfl) rfl ?_; refine ol_ev (ev_move rfl) rfl ?_; refine ol_ev (ev_lt rfl rfl) rfl ?_; refine ol_nil ?_
  rw [decide_eq_false (show ¬ ((text.length : Nat) : Int) < ((w : Nat) : Int) by omega)]
  refine cw_if_f rfl ?_; refine cw_skip ?_; refine cw_seq ?_; refine cw_region ?_; refine ol_ev (ev_assign rfl) rfl ?_; refine ol_nil ?_; refine cw_seq ?_; refine cw_seq ?_; refine cw_region ?_; refine ol_ev (ev_assign rfl) rfl ?_; refine ol_nil ?_; refine cw_block ?_
  refine cw_loop (σ := Nat) (fun i => [(0, str text), (1, .int .i64 (w : Int)), (6, .int .i64 (val (text.take i) : Int)), (7, .int .i64 (i : Int))]) (fun _ => [])
    (fun i => i ≤ w) (fun i => w - i) 0 (Nat.zero_le _) (fun a ha => ha.weak ⟨rfl, rfl, rfl, rfl, trivial⟩) rfl ?_
  intro i hi
  refine cw_seq ?_; refine cw_seq ?_; refine cw_region ?_; refine ol_ev (ev_move rfl) rfl ?_; refine ol_ev (ev_move rfl) rfl ?_; refine ol_ev (ev_lt rfl rfl) rfl ?_; refine ol_nil ?_
  refine cw_ifd rfl (fun h2 => ?_) (fun h2 => ?_)
  · have hx : i < text.length := by omega
    have hv := val_small (d := text.take i) (w := w) (by simp; omega) h3
    have hb := text[i].toNat_lt
    have hc : text[((i : Nat) : Int).toNat]? = some text[i] := List.getElem?_eq_getElem hx
    refine cw_skip ?_; refine cw_seq ?_; refine cw_block ?_; refine cw_region ?_; refine ol_ev (ev_move rfl) rfl ?_
    refine ol_ev (ev_mul rfl rfl (by constructor <;> omega)) rfl ?_
    refine ol_ev (ev_move rfl) rfl ?_; refine ol_ev (ev_move rfl) rfl ?_
    refine ol_ev (ev_index_str rfl rfl (by omega) hc) rfl ?_
    refine ol_ev (ev_conv_int rfl (wrap_u8 _)) rfl ?_
    (refine ol_ev (ev_add rfl rfl ?_) rfl ?_; (constructor <;> omega)); refine ol_ev (ev_assign rfl) rfl ?_; refine ol_nil ?_; refine cw_region ?_; refine ol_ev (ev_move rfl) rfl ?_; (refine ol_ev (ev_add rfl rfl ?_) rfl ?_; (constructor <;> omega)); refine ol_ev (ev_assign rfl) rfl ?_; refine ol_nil ?_
    refine ⟨i + 1, by omega, ⟨rfl, rfl, ?_, rfl, trivial⟩, rfl, by omega⟩
    rw [take_snoc hx, val_snoc]; rfl
  · have hiw : i = w := by omega
    subst hiw
    refine cw_exit ?_; refine cw_seq ?_; refine cw_region ?_; refine ol_ev (ev_move rfl) rfl ?_; refine ol_ev (ev_assign rfl) rfl ?_; refine ol_ev (ev_assign rfl) rfl ?_; refine ol_nil ?_; refine cw_ret ?_
    exact ⟨_, res2 rfl rfl rfl, rfl, rfl⟩

theorem specFrames_ct (text : List UInt8) (w : Nat) (h1 : 1 ≤ w) (h3 : w ≤ 3) (ts : List (List UInt8)) (e : Option Nat) (m : Nat) (hf : FramesOf w text ts e m) (hl : text.length ≤ 1099511627776) :
    Ct Tryd.prog W 34 #[str text, .int .i64 (w : Int)] [] (fun v H' => ∃ u, v = .agg #[u, .int .i64 (codeOf e)] ∧ StrsAt H' u ts) := by
  refine ct_of_cw (vs := [_, _]) Tryd.func34 rfl rfl fun w1 => ?_
  refine cw_seq ?_; refine cw_region ?_
  refine ol_alloc rfl fun r0 => ?_
  refine ol_nil ?_; refine cw_seq ?_; refine cw_region ?_
  refine ol_slice0 rfl fun ob => ?_
  refine ol_ev (ev_build1 rfl rfl) rfl ?_
  refine ol_alloc rfl fun b3 => ?_
  refine ol_storeS (o := ⟨[.slice none 0 0, .int .i64 0], 41, (0, 0)⟩) (cs := [.slice (some ⟨ob, 0, none⟩) 0 0, .int .i64 0]) rfl rfl rfl (by simp [Value.oneCell']) u0 rfl rfl ?_
  refine ol_nil ?_; refine cw_seq ?_; refine cw_seq ?_; refine cw_region ?_; refine ol_ev (ev_assign rfl) rfl ?_; refine ol_nil ?_; refine cw_block ?_
  refine cw_loop (σ := Nat × Nat × List Value × List (List UInt8) × List (List UInt8)) (fun g => [(0, str text), (1, .int .i64 (w : Int)), (4, .pointer (some ⟨r0, 0, none⟩)), (5, .pointer (some ⟨b3, 0, none⟩)), (6, .int .i64 (g.1 : Int))])
    (fun g => [(b3, ⟨[.slice (some ⟨g.2.1, 0, none⟩) g.2.2.2.1.length (g.2.2.2.1.length + g.2.2.1.length), .int .i64 0], 41, (0, 0)⟩), (g.2.1, strO g.2.2.2.1 g.2.2.1), (r0, ⟨[.slice none 0 0, .int .i64 0], 41, (0, 0)⟩)])
    (fun g => g.1 ≤ text.length ∧ g.2.2.2.1 ++ g.2.2.2.2 = ts ∧ g.2.2.2.1.length ≤ g.1 ∧ ∃ m, FramesOf w (text.drop g.1) g.2.2.2.2 e m) (fun g => text.length - g.1) (0, ob, [], [], ts) ⟨Nat.zero_le _, rfl, by simp, m, by simpa using hf⟩ (fun a ha => ha.weak ⟨rfl, rfl, rfl, rfl, rfl, trivial⟩) rfl ?_
  rintro ⟨i, ob, sp, ds, ls⟩ ⟨hi, hts, hdl, m, hf⟩
  simp only at hi hts hdl hf ⊢
  refine cw_seq ?_; refine cw_seq ?_; refine cw_region ?_; refine ol_ev (ev_move rfl) rfl ?_; refine ol_ev (ev_move rfl) rfl ?_; refine ol_ev (ev_len_str rfl) rfl ?_; refine ol_ev (ev_lt rfl rfl) rfl ?_; refine ol_nil ?_
  refine cw_ifd rfl (fun h2 => ?_) (fun h2 => ?_)
  · have hx : i < text.length := by omega
    have hdrop : (text.drop i).length = text.length - i := by simp
    refine cw_skip ?_; refine cw_block ?_; refine cw_seq ?_; refine cw_region ?_; refine ol_ev (ev_move rfl) rfl ?_; refine ol_ev (ev_move rfl) rfl ?_
    refine ol_ev (ev_slice_str_from rfl rfl (by omega) (by omega)) rfl ?_
    have hi' : ((i : Nat) : Int).toNat = i := by omega
    rw [hi']
    refine ol_ev (ev_move rfl) rfl ?_
    by_cases hwl : (text.drop i).length < w
    · refine ol_call2 (G := []) (cap := []) rfl rfl rfl rfl (long_bad_ct (text.drop i) w hwl) (List.Perm.refl _) ?_
      rintro v G' ⟨rfl, rfl⟩
      refine ol_ev (ev_move rfl) rfl ?_; refine ol_ev (ev_extract rfl rfl) rfl ?_; refine ol_ev (ev_extract rfl rfl) rfl ?_; refine ol_ev (ev_assign rfl) rfl ?_; refine ol_ev (ev_assign rfl) rfl ?_; refine ol_nil ?_; refine cw_seq ?_; refine cw_seq ?_; refine cw_region ?_; refine ol_ev (ev_move rfl) rfl ?_; refine ol_ev (ev_not rfl) rfl ?_; refine ol_ev (ev_move rfl) rfl ?_; (iterate 8 (refine ol_off rfl rfl rfl rfl rfl ?_)); refine ol_ev (ev_pick_t rfl rfl) rfl ?_; refine ol_nil ?_; refine cw_if_t rfl ?_; refine cw_seq ?_; refine cw_region ?_; refine ol_ev (ev_fld rfl) rfl ?_; refine ol_store rfl rfl rfl u0 rfl rfl ?_; refine ol_nil ?_; refine cw_seq ?_; refine cw_region ?_
      refine ol_ev (ev_loadS (cs := [.slice (some ⟨ob, 0, none⟩) ds.length (ds.length + sp.length), .int .i64 4]) rfl rfl m0 rfl) rfl ?_
      refine ol_storeS (o := ⟨[.slice none 0 0, .int .i64 0], 41, (0, 0)⟩) (cs := [.slice (some ⟨ob, 0, none⟩) ds.length (ds.length + sp.length), .int .i64 4]) rfl rfl rfl (by simp [Value.oneCell']) u2 rfl rfl ?_
      refine ol_nil ?_; refine cw_ret ?_
      have hend : ls = [] ∧ e = some 7 := by
        generalize hr : text.drop i = r at hf hwl
        cases hf with
        | nil => rw [hr] at hdrop; simp at hdrop; omega
        | bad => exact ⟨rfl, rfl⟩
        | cons a1 _ _ => simp at hwl; omega
      obtain ⟨rfl, rfl⟩ := hend
      rw [List.append_nil] at hts
      subst hts
      exact ⟨_, resC (cs := [.slice (some ⟨ob, 0, none⟩) ds.length (ds.length + sp.length), .int .i64 4]) rfl rfl rfl m2 rfl, _, rfl, ob, ds.length + sp.length, sp, rfl, m1, Nat.le_add_right _ _⟩
    · have hv := val_small (d := (text.drop i).take w) (w := w) (by simp; omega) h3
      refine ol_call2 (G := []) (cap := []) rfl rfl rfl rfl (long_ct (text.drop i) w (by omega) h3) (List.Perm.refl _) ?_
      rintro v G' ⟨rfl, rfl⟩
      refine ol_ev (ev_move rfl) rfl ?_; refine ol_ev (ev_extract rfl rfl) rfl ?_; refine ol_ev (ev_extract rfl rfl) rfl ?_; refine ol_ev (ev_assign rfl) rfl ?_; refine ol_ev (ev_assign rfl) rfl ?_; refine ol_nil ?_; refine cw_seq ?_; refine cw_seq ?_; refine cw_region ?_; refine ol_ev (ev_move rfl) rfl ?_; refine ol_ev (ev_not rfl) rfl ?_; refine ol_ev (ev_move rfl) rfl ?_; refine ol_on rfl rfl rfl ?_; refine ol_ev (ev_move rfl) rfl ?_; refine ol_on rfl rfl rfl ?_; refine ol_ev (ev_len_str rfl) rfl ?_; refine ol_on rfl rfl rfl ?_; refine ol_ev (ev_move rfl) rfl ?_; refine ol_on rfl rfl rfl ?_; (refine ol_ev (ev_sub rfl rfl ?_) rfl ?_; (constructor <;> omega)); refine ol_on rfl rfl rfl ?_; refine ol_ev (ev_move rfl) rfl ?_; refine ol_on rfl rfl rfl ?_; (refine ol_ev (ev_sub rfl rfl ?_) rfl ?_; (constructor <;> omega)); refine ol_on rfl rfl rfl ?_; refine ol_ev (ev_move rfl) rfl ?_; refine ol_on rfl rfl rfl ?_; refine ol_ev (ev_lt rfl rfl) rfl ?_; refine ol_ev (ev_pick_f rfl rfl) rfl ?_; refine ol_nil ?_
      refine cw_ifd rfl (fun h4 => ?_) (fun h4 => ?_)
      · refine cw_seq ?_; refine cw_region ?_; refine ol_ev (ev_fld rfl) rfl ?_; refine ol_store rfl rfl rfl u0 rfl rfl ?_; refine ol_nil ?_; refine cw_seq ?_; refine cw_region ?_
        refine ol_ev (ev_loadS (cs := [.slice (some ⟨ob, 0, none⟩) ds.length (ds.length + sp.length), .int .i64 4]) rfl rfl m0 rfl) rfl ?_
        refine ol_storeS (o := ⟨[.slice none 0 0, .int .i64 0], 41, (0, 0)⟩) (cs := [.slice (some ⟨ob, 0, none⟩) ds.length (ds.length + sp.length), .int .i64 4]) rfl rfl rfl (by simp [Value.oneCell']) u2 rfl rfl ?_
        refine ol_nil ?_; refine cw_ret ?_
        have hend : ls = [] ∧ e = some 7 := by
          generalize hr : text.drop i = r at hf hwl h4
          cases hf with
          | nil => rw [hr] at hdrop; simp at hdrop; omega
          | bad => exact ⟨rfl, rfl⟩
          | cons a1 a2 _ =>
            rw [List.append_assoc, List.take_append_of_le_length (by omega), List.take_of_length_le (by omega)] at h4
            have := congrArg List.length hr
            simp at this
            omega
        obtain ⟨rfl, rfl⟩ := hend
        rw [List.append_nil] at hts
        subst hts
        exact ⟨_, resC (cs := [.slice (some ⟨ob, 0, none⟩) ds.length (ds.length + sp.length), .int .i64 4]) rfl rfl rfl m2 rfl, _, rfl, ob, ds.length + sp.length, sp, rfl, m1, Nat.le_add_right _ _⟩
      · have hcons : ∃ t r, ls = t :: r ∧ sub text (((i : Nat) : Int) + (w : Int)).toNat (((i : Nat) : Int) + (w : Int) + (val ((text.drop i).take w) : Int)).toNat = t ∧ t.length = val ((text.drop i).take w) ∧ i + (w + t.length) ≤ text.length ∧ ∃ m, FramesOf w (text.drop (i + (w + t.length))) r e m := by
          generalize hr : text.drop i = r at hf hwl h4
          have hlen := congrArg List.length hr
          rw [List.length_drop] at hlen
          cases hf with
          | nil => simp at hlen; omega
          | bad a1 a2 => omega
          | @cons hd t rest ts' e' m' a1 a2 a3 =>
            have e0 : (hd ++ t ++ rest).take w = hd := by
              rw [List.append_assoc, List.take_append_of_le_length (by omega), List.take_of_length_le (by omega)]
            rw [e0]
            simp at hlen
            refine ⟨t, ts', rfl, ?_, a2, by omega, m', ?_⟩
            · have e1 : (((i : Nat) : Int) + (w : Int)).toNat = i + w := by omega
              have e2 : (((i : Nat) : Int) + (w : Int) + (val hd : Int)).toNat = i + w + val hd := by omega
              rw [e1, e2]
              unfold sub
              rw [Nat.add_sub_cancel_left, ← List.drop_drop, hr, List.append_assoc, List.drop_append_of_le_length (by omega), List.drop_of_length_le (by omega), List.nil_append, List.take_append_of_le_length (by omega), List.take_of_length_le (by omega)]
            · rw [← List.drop_drop, hr]
              have : (hd ++ t ++ rest).drop (w + t.length) = rest := by
                rw [List.drop_append_of_le_length (by simp; omega), List.drop_of_length_le (by simp; omega)]
                rfl
              rw [this]; exact a3
        obtain ⟨t, r, rfl, hsub, htl, hle, hrest⟩ := hcons
        refine cw_skip ?_; refine cw_seq ?_
        refine cw_floatx [(0, false), (1, false), (2, false), (3, false), (4, false), (5, false), (6, false), (7, false), (8, false), (9, false), (10, false), (11, false), (12, true), (13, true), (14, false)] 15 [(b3, ⟨[.slice (some ⟨ob, 0, none⟩) ds.length (ds.length + sp.length), .int .i64 0], 41, (0, 0)⟩)] mixed (by kernel_rfl) rfl (List.Sublist.cons_cons _ (List.nil_sublist _)) (fun _ _ _ h => h) (fun _ _ h => h) ?_
        refine fl_ev rfl (ev_fld rfl) rfl ?_; refine fl_ev rfl (ev_load rfl m0 rfl) rfl ?_; (iterate 3 (refine fl_ev rfl (ev_move rfl) rfl ?_)); (refine fl_ev rfl (ev_add rfl rfl ?_) rfl ?_; (constructor <;> omega)); refine fl_ev rfl (ev_move rfl) rfl ?_; refine fl_ev rfl (ev_move rfl) rfl ?_; (refine fl_ev rfl (ev_add rfl rfl ?_) rfl ?_; (constructor <;> omega)); refine fl_ev rfl (ev_move rfl) rfl ?_; (refine fl_ev rfl (ev_add rfl rfl ?_) rfl ?_; (constructor <;> omega))
        refine fl_ev rfl (ev_slice_str rfl rfl rfl (by omega) (by omega) (by omega)) rfl ?_
        rw [hsub]
        refine fl_x rfl ?_
        refine ol_slice1 rfl rfl rfl rfl fun b1 => ?_
        refine ol_nil ⟨sub_cons m1 sub_nil, ?_⟩
        refine fl_x rfl ?_
        refine ol_append (xs := ds.map str) (sp := sp) (ys := [str t]) rfl rfl (fun _ _ => r2) m0 (by simp) (by simp) rfl rfl (by intro u hu; simp only [List.mem_singleton] at hu; subst hu; rfl) rfl (by omega) (by omega) rfl ?_
        intro b' sp'
        refine ol_nil ⟨sub_cons m1 sub_nil, ?_⟩
        refine fl_ev rfl (ev_fld rfl) rfl ?_
        refine fl_nil ?_
        refine OL.less (List.sublist_cons_self _ _) ?_
        refine ol_store rfl rfl rfl u0 rfl rfl ?_; refine ol_nil ?_; refine cw_region ?_; (iterate 3 (refine ol_ev (ev_move rfl) rfl ?_)); (refine ol_ev (ev_add rfl rfl ?_) rfl ?_; (constructor <;> omega)); (refine ol_ev (ev_add rfl rfl ?_) rfl ?_; (constructor <;> omega)); refine ol_ev (ev_assign rfl) rfl ?_; refine ol_nil ?_
        refine ⟨(i + (w + t.length), b', sp', ds ++ [t], r), ⟨hle, by simpa using hts, by simp; omega, hrest⟩, ⟨rfl, rfl, rfl, rfl, ?_, trivial⟩, ?_, by show text.length - (i + (w + t.length)) < text.length - i; omega⟩
        · rw [htl]; rfl
        · have e1 : (ds.map str ++ [str t]).length = ds.length + 1 := by simp
          have e2 : ds.map str ++ [str t] = (ds ++ [t]).map str := by simp
          have e3 : (ds ++ [t]).length = ds.length + 1 := by simp
          simp only [e1, e3]
          rw [e2]; rfl
  · have hend : text.drop i = [] := List.drop_of_length_le (by omega)
    rw [hend] at hf
    have hls : ls = [] ∧ e = none := ⟨(hf.empty h1).1, (hf.empty h1).2.1⟩
    obtain ⟨rfl, rfl⟩ := hls
    rw [List.append_nil] at hts
    subst hts
    refine cw_exit ?_; refine cw_seq ?_; refine cw_region ?_
    refine ol_ev (ev_loadS (cs := [.slice (some ⟨ob, 0, none⟩) ds.length (ds.length + sp.length), .int .i64 0]) rfl rfl m0 rfl) rfl ?_
    refine ol_storeS (o := ⟨[.slice none 0 0, .int .i64 0], 41, (0, 0)⟩) (cs := [.slice (some ⟨ob, 0, none⟩) ds.length (ds.length + sp.length), .int .i64 0]) rfl rfl rfl (by simp [Value.oneCell']) u2 rfl rfl ?_
    refine ol_nil ?_; refine cw_ret ?_
    exact ⟨_, resC (cs := [.slice (some ⟨ob, 0, none⟩) ds.length (ds.length + sp.length), .int .i64 0]) rfl rfl rfl m2 rfl, _, rfl, ob, ds.length + sp.length, sp, rfl, m1, Nat.le_add_right _ _⟩
end
end Go.HE
