/- The longest words of an automaton, by contracts: the automaton's functions, the split function, all tokens. Conditions: the errors are as start-up lays them; the automaton and the pieces lie in old memory; the text has at most 2 to the 40th bytes. -/
import Derived.Test.YtmiioacpejmndaaDoorMunchP
import Derived.Test.YtmiioacpejmndaaDoorTexts
set_option maxRecDepth 100000
set_option maxHeartbeats 4000000
namespace Go.HE
open Go.RowKit Go.Proofs

instance : TAgg Tryd.prog 51 3 := ⟨by kernel_rfl, by kernel_rfl⟩
/-- Lists of lists of numbers, and lists of truth values, in old memory; an automaton of these. -/
def RowsI (W : World) (v : Value) (rows : List (List Int)) : Prop :=
  ∃ a cap, v = .slice a rows.length cap ∧ ∀ (i : Nat) row, rows[i]? = some row → ∃ b off u, a = some ⟨b, off, none⟩ ∧ W.cell? ⟨b, off + i, none⟩ = some u ∧ Pcs W u row
def BoolsW (W : World) (v : Value) (bs : List Bool) : Prop :=
  ∃ a cap, v = .slice a bs.length cap ∧ ∀ (i : Nat) x, bs[i]? = some x → ∃ b off, a = some ⟨b, off, none⟩ ∧ W.cell? ⟨b, off + i, none⟩ = some (.bool x)
structure Mach (W : World) (nv fv : Value) (M : Au) : Prop where
  next : RowsI W nv M.next
  final : BoolsW W fv M.final
theorem wrap_u8' (b : UInt8) : IntKind.i64.wrap ((b.toNat : Nat) : Int) = ((b.toNat : Nat) : Int) := by
  have := b.toNat_lt
  exact wrap_i64 ⟨by omega, by omega⟩

section
variable {W : World} {E : Nat → Addr} {nv fv : Value} {M : Au}
theorem step_ct (hM : Mach W nv fv M) (s : Int) (c : UInt8) : Ct Tryd.prog W 47 #[.agg #[.int .i64 M.classes, nv, fv], .int .i64 s, bv c] [] (fun v _ => v = .int .i64 (M.step s c)) := by
  obtain ⟨⟨na, ncap, rfl, hn⟩, _⟩ := hM
  refine ct_of_cw (vs := [_, _, _]) Tryd.func47 rfl rfl fun w1 => ?_
  refine cw_seq ?_; refine cw_region ?_
  refine ol_box rfl rfl fun b3 => ?_
  refine ol_ev (ev_assign rfl) rfl ?_; refine ol_nil ?_; refine cw_seq ?_; refine cw_seq ?_; refine cw_region ?_; refine ol_ev (ev_move rfl) rfl ?_; refine ol_ev (ev_lt rfl rfl) rfl ?_; refine ol_ev (ev_move rfl) rfl ?_
  by_cases h0 : s < 0
  · rw [decide_eq_true h0]
    (iterate 5 (refine ol_off rfl rfl rfl rfl rfl ?_)); refine ol_ev (ev_pick_t rfl rfl) rfl ?_; refine ol_nil ?_; refine cw_if_t rfl ?_; refine cw_seq ?_; refine cw_region ?_; refine ol_ev (ev_assign rfl) rfl ?_; refine ol_nil ?_; refine cw_ret ?_
    refine ⟨_, res1 rfl rfl, ?_⟩
    unfold Au.step; rw [if_pos h0]
  rw [decide_eq_false h0]
  refine ol_on rfl rfl rfl ?_; refine ol_ev (ev_move rfl) rfl ?_; refine ol_on rfl rfl rfl ?_; refine ol_ev (ev_fld rfl) rfl ?_; refine ol_on rfl rfl rfl ?_; refine ol_ev (ev_load rfl m0 rfl) rfl ?_; refine ol_on rfl rfl rfl ?_; refine ol_ev (ev_len_s rfl) rfl ?_; refine ol_on rfl rfl rfl ?_; refine ol_ev (ev_ge rfl rfl) rfl ?_; refine ol_ev (ev_pick_f rfl rfl) rfl ?_; refine ol_nil ?_
  refine cw_ifd rfl (fun h1 => ?_) (fun h1 => ?_)
  · refine cw_seq ?_; refine cw_region ?_; refine ol_ev (ev_assign rfl) rfl ?_; refine ol_nil ?_; refine cw_ret ?_
    refine ⟨_, res1 rfl rfl, ?_⟩
    unfold Au.step; rw [if_neg h0, List.getElem?_eq_none (by omega)]
  have hlt : s.toNat < M.next.length := by omega
  obtain ⟨b, off, u, e1, hcu, ⟨pa, pcap, rfl, hp⟩⟩ := hn s.toNat _ (List.getElem?_eq_getElem hlt)
  subst e1
  have hk : (((c.toNat : Nat) : Int) % max M.classes 1) = ((M.cls c : Nat) : Int) := by
    unfold Au.cls
    have : 0 ≤ ((c.toNat : Nat) : Int) % max M.classes 1 := Int.emod_nonneg _ (by omega)
    omega
  refine cw_skip ?_; refine cw_seq ?_; refine cw_region ?_; refine ol_ev (ev_move rfl) rfl ?_
  refine ol_ev (ev_conv_int rfl (wrap_u8' _)) rfl ?_
  refine ol_ev (ev_fld rfl) rfl ?_; refine ol_ev (ev_load rfl m0 rfl) rfl ?_; refine ol_ev (ev_max rfl rfl) rfl ?_
  refine ol_ev (ev_rem rfl rfl (by omega) (by omega)) rfl ?_
  rw [hk]
  refine ol_ev (ev_assign rfl) rfl ?_; refine ol_nil ?_; refine cw_seq ?_; refine cw_seq ?_; refine cw_region ?_; refine ol_ev (ev_move rfl) rfl ?_; refine ol_ev (ev_fld rfl) rfl ?_; refine ol_ev (ev_load rfl m0 rfl) rfl ?_; refine ol_ev (ev_move rfl) rfl ?_
  refine ol_ev (ev_idx1 rfl rfl (by omega) (by omega)) rfl ?_
  refine ol_ev (ev_loadW rfl hcu) rfl ?_
  refine ol_ev (ev_len_s rfl) rfl ?_; refine ol_ev (ev_ge rfl rfl) rfl ?_; refine ol_nil ?_
  refine cw_ifd rfl (fun h2 => ?_) (fun h2 => ?_)
  · refine cw_seq ?_; refine cw_region ?_; refine ol_ev (ev_assign rfl) rfl ?_; refine ol_nil ?_; refine cw_ret ?_
    refine ⟨_, res1 rfl rfl, ?_⟩
    unfold Au.step
    rw [if_neg h0, List.getElem?_eq_getElem hlt]
    simp only
    rw [List.getElem?_eq_none (by omega)]; rfl
  have hlk : M.cls c < M.next[s.toNat].length := by omega
  obtain ⟨b', off', e2, hcell⟩ := hp (M.cls c) _ (List.getElem?_eq_getElem hlk)
  subst e2
  refine cw_skip ?_; refine cw_seq ?_; refine cw_region ?_; refine ol_ev (ev_fld rfl) rfl ?_; refine ol_ev (ev_load rfl m0 rfl) rfl ?_; refine ol_ev (ev_move rfl) rfl ?_
  refine ol_ev (ev_idx1 rfl rfl (by omega) (by omega)) rfl ?_
  refine ol_ev (ev_loadW rfl hcu) rfl ?_
  refine ol_ev (ev_move rfl) rfl ?_
  refine ol_ev (ev_idx1 rfl rfl (by omega) (by omega)) rfl ?_
  refine ol_ev (ev_loadW rfl hcell) rfl ?_
  refine ol_ev (ev_assign rfl) rfl ?_; refine ol_nil ?_; refine cw_ret ?_
  refine ⟨_, res1 rfl rfl, ?_⟩
  unfold Au.step
  rw [if_neg h0, List.getElem?_eq_getElem hlt]
  simp only
  rw [List.getElem?_eq_getElem hlk]; rfl

theorem accepts_ct (hM : Mach W nv fv M) (s : Int) : Ct Tryd.prog W 48 #[.agg #[.int .i64 M.classes, nv, fv], .int .i64 s] [] (fun v _ => v = .bool (M.acc s)) := by
  obtain ⟨_, ⟨fa, fcap, rfl, hf⟩⟩ := hM
  refine ct_of_cw (vs := [_, _]) Tryd.func48 rfl rfl fun w1 => ?_
  refine cw_seq ?_; refine cw_region ?_
  refine ol_box rfl rfl fun b2 => ?_
  refine ol_ev (ev_assign rfl) rfl ?_; refine ol_nil ?_; refine cw_seq ?_; refine cw_region ?_; refine ol_ev (ev_move rfl) rfl ?_; refine ol_ev (ev_ge rfl rfl) rfl ?_; refine ol_ev (ev_move rfl) rfl ?_
  by_cases h0 : 0 ≤ s
  · rw [decide_eq_true h0]
    refine ol_on rfl rfl rfl ?_; refine ol_ev (ev_move rfl) rfl ?_; refine ol_on rfl rfl rfl ?_; refine ol_ev (ev_fld rfl) rfl ?_; refine ol_on rfl rfl rfl ?_; refine ol_ev (ev_load rfl m0 rfl) rfl ?_; refine ol_on rfl rfl rfl ?_; refine ol_ev (ev_len_s rfl) rfl ?_; refine ol_on rfl rfl rfl ?_; refine ol_ev (ev_lt rfl rfl) rfl ?_; refine ol_ev (ev_pick_t rfl rfl) rfl ?_; refine ol_ev (ev_move rfl) rfl ?_
    by_cases h1 : s < ((M.final.length : Nat) : Int)
    · have hlt : s.toNat < M.final.length := by omega
      obtain ⟨b, off, e1, hcell⟩ := hf s.toNat _ (List.getElem?_eq_getElem hlt)
      subst e1
      rw [decide_eq_true h1]
      refine ol_on rfl rfl rfl ?_; refine ol_ev (ev_fld rfl) rfl ?_; refine ol_on rfl rfl rfl ?_; refine ol_ev (ev_load rfl m0 rfl) rfl ?_; refine ol_on rfl rfl rfl ?_; refine ol_ev (ev_move rfl) rfl ?_; refine ol_on rfl rfl rfl ?_
      refine ol_ev (ev_idx1 rfl rfl (by omega) (by omega)) rfl ?_
      refine ol_on rfl rfl rfl ?_
      refine ol_ev (ev_loadW rfl hcell) rfl ?_
      refine ol_ev (ev_pick_t rfl rfl) rfl ?_; refine ol_ev (ev_assign rfl) rfl ?_; refine ol_nil ?_; refine cw_ret ?_
      refine ⟨_, res1 rfl rfl, ?_⟩
      unfold Au.acc
      rw [if_neg (by omega), List.getElem?_eq_getElem hlt]; rfl
    · rw [decide_eq_false h1]
      (iterate 5 (refine ol_off rfl rfl rfl rfl rfl ?_)); refine ol_ev (ev_pick_f rfl rfl) rfl ?_; refine ol_ev (ev_assign rfl) rfl ?_; refine ol_nil ?_; refine cw_ret ?_
      refine ⟨_, res1 rfl rfl, ?_⟩
      unfold Au.acc
      rw [if_neg (by omega), List.getElem?_eq_none (by omega)]; rfl
  · rw [decide_eq_false h0]
    (iterate 5 (refine ol_off rfl rfl rfl rfl rfl ?_)); refine ol_ev (ev_pick_f rfl rfl) rfl ?_; refine ol_ev (ev_move rfl) rfl ?_; (iterate 5 (refine ol_off rfl rfl rfl rfl rfl ?_)); refine ol_ev (ev_pick_f rfl rfl) rfl ?_; refine ol_ev (ev_assign rfl) rfl ?_; refine ol_nil ?_; refine cw_ret ?_
    refine ⟨_, res1 rfl rfl, ?_⟩
    unfold Au.acc; rw [if_pos (by omega)]

theorem munch_ok (hE : Errs W E) (hM : Mach W nv fv M) (mb : Nat) : SplitOk W E 46 [.pointer (some ⟨mb, 0, none⟩)] (mstep M) (fun _ T => (mb, (⟨[.int .i64 M.classes, nv, fv], 51, (0, 0)⟩ : HO)) ∈ T) := by
  refine ⟨by kernel_rfl, fun _ _ _ hp h => hp.subset h, fun _ _ _ h => List.mem_cons_of_mem _ h, fun s d e c h => ?_, fun s T bb off dcap cells data atEOF hI hne hdat hle hcap hbig => ?_⟩
  · unfold mstep at h
    split at h
    · cases h
    · split at h
      · cases h
      · split at h
        · cases h; omega
        · cases h
  have hI' : (mb, (⟨[.int .i64 M.classes, nv, fv], 51, (0, 0)⟩ : HO)) ∈ (bb, (⟨cells, 5, (0, 0)⟩ : HO)) :: T := List.mem_cons_of_mem _ hI
  have hll := M.long_le data
  refine ct_of_cw (vs := [_, _, _]) Tryd.func46 rfl rfl fun w1 => ?_
  refine cw_seq ?_
  refine cw_region ?_; (iterate 3 (refine ol_ev (ev_assign rfl) rfl ?_)); refine ol_nil ?_
  refine cw_seq ?_
  refine cw_region ?_; refine ol_ev (ev_assign rfl) rfl ?_; refine ol_ev (ev_assign rfl) rfl ?_; refine ol_nil ?_
  refine cw_cut (fun l' H' => ∃ st : Int, SubE l' [(0, .slice (some ⟨bb, off, none⟩) data.length dcap), (1, .bool atEOF), (8, .int .i64 st), (9, .int .i64 (M.long data : Int))] ∧ H' = (bb, (⟨cells, 5, (0, 0)⟩ : HO)) :: T ∧ (0 ≤ st ↔ 0 ≤ M.run 0 data)) ?_ ?_
  · refine cw_seq ?_; refine cw_region ?_; refine ol_ev (ev_assign rfl) rfl ?_; refine ol_nil ?_; refine cw_block ?_
    refine cw_loop (σ := Nat) (fun i => [(0, .slice (some ⟨bb, off, none⟩) data.length dcap), (1, .bool atEOF), (2, .pointer (some ⟨mb, 0, none⟩)), (8, .int .i64 (M.run 0 (data.take i))), (9, .int .i64 (M.best data i : Int)), (10, .int .i64 (i : Int))]) (fun _ => (bb, (⟨cells, 5, (0, 0)⟩ : HO)) :: T)
      (fun i => i ≤ data.length) (fun i => data.length - i) 0 (Nat.zero_le _) (fun a ha => ha.weak ⟨rfl, rfl, rfl, rfl, rfl, rfl, trivial⟩) rfl ?_
    intro i hi
    have hbi := M.best_le data i
    refine cw_seq ?_; refine cw_seq ?_; refine cw_region ?_; refine ol_ev (ev_move rfl) rfl ?_; refine ol_ev (ev_move rfl) rfl ?_; refine ol_ev (ev_len_s rfl) rfl ?_; refine ol_ev (ev_lt rfl rfl) rfl ?_; refine ol_ev (ev_move rfl) rfl ?_
    by_cases hx : i < data.length
    · rw [decide_eq_true (show ((i : Nat) : Int) < ((data.length : Nat) : Int) by omega)]
      refine ol_on rfl rfl rfl ?_; refine ol_ev (ev_move rfl) rfl ?_; refine ol_on rfl rfl rfl ?_; refine ol_ev (ev_ge rfl rfl) rfl ?_; refine ol_ev (ev_pick_t rfl rfl) rfl ?_; refine ol_nil ?_
      refine cw_ifd rfl (fun h3 => ?_) (fun h3 => ?_)
      · have k1 : cells[off + ((i : Nat) : Int).toNat]? = some (bv data[i]) := cell_at hdat hx
        have hrun : M.step (M.run 0 (data.take i)) data[i] = M.run 0 (data.take (i + 1)) := by rw [take_snoc hx, M.run_append]; rfl
        refine cw_skip ?_; refine cw_seq ?_; refine cw_block ?_; refine cw_seq ?_
        refine cw_mid 6 mixed (by kernel_rfl) rfl ?_
        skip
        refine sl_ev (ev_loadS (cs := [.int .i64 M.classes, nv, fv]) rfl rfl hI' rfl) rfl ?_
        (iterate 3 (refine sl_ev (ev_move rfl) rfl ?_))
        refine sl_ev (ev_idx1 rfl rfl (by omega) (by omega)) rfl ?_
        refine sl_ev (ev_load rfl m0 k1) rfl ?_
        refine sl_nil ?_
        refine ol_call3 (G := []) (cap := []) rfl rfl rfl rfl rfl (step_ct hM (M.run 0 (data.take i)) data[i]) (List.Perm.refl _) ?_
        rintro v G' rfl
        rw [hrun]
        refine OL.drop ?_
        refine ol_nil ?_
        refine sl_ev (ev_assign rfl) rfl ?_; refine sl_nil ?_
        refine cw_seq ?_; refine cw_region ?_
        refine ol_ev (ev_loadS (cs := [.int .i64 M.classes, nv, fv]) rfl rfl hI' rfl) rfl ?_
        refine ol_ev (ev_move rfl) rfl ?_
        refine ol_call2 (G := []) (cap := []) rfl rfl rfl rfl (accepts_ct hM (M.run 0 (data.take (i + 1)))) (List.Perm.refl _) ?_
        rintro v G' rfl
        refine OL.drop ?_
        refine ol_nil ?_
        have hbs : M.best data (i + 1) = if M.acc (M.run 0 (data.take (i + 1))) = true then i + 1 else M.best data i := rfl
        cases hacc : M.acc (M.run 0 (data.take (i + 1))) with
        | true =>
          rw [hacc, if_pos rfl] at hbs
          refine cw_if_t rfl ?_; refine cw_region ?_; refine ol_ev (ev_move rfl) rfl ?_; (refine ol_ev (ev_add rfl rfl ?_) rfl ?_; (constructor <;> omega)); refine ol_ev (ev_assign rfl) rfl ?_; refine ol_nil ?_; refine cw_region ?_; refine ol_ev (ev_move rfl) rfl ?_; (refine ol_ev (ev_add rfl rfl ?_) rfl ?_; (constructor <;> omega)); refine ol_ev (ev_assign rfl) rfl ?_; refine ol_nil ?_
          refine ⟨i + 1, hx, ⟨rfl, rfl, rfl, rfl, ?_, rfl, trivial⟩, rfl, by omega⟩
          rw [hbs]; rfl
        | false =>
          rw [hacc, if_neg (by simp)] at hbs
          refine cw_if_f rfl ?_; refine cw_skip ?_; refine cw_region ?_; refine ol_ev (ev_move rfl) rfl ?_; (refine ol_ev (ev_add rfl rfl ?_) rfl ?_; (constructor <;> omega)); refine ol_ev (ev_assign rfl) rfl ?_; refine ol_nil ?_
          refine ⟨i + 1, hx, ⟨rfl, rfl, rfl, rfl, ?_, rfl, trivial⟩, rfl, by omega⟩
          rw [hbs]; rfl
      · have hdead : M.run 0 (data.take i) < 0 := by omega
        have hlong : M.long data = M.best data i := M.best_dead (by omega) hdead _ (by omega) (Nat.le_refl _)
        have hrd : M.run 0 data < 0 := (M.dead_iff data).1 ⟨i, by omega, hdead⟩
        refine cw_exit ?_
        refine ⟨_, ⟨rfl, rfl, rfl, ?_, trivial⟩, rfl, by omega⟩
        rw [hlong]; rfl
    · have hend : i = data.length := by omega
      subst hend
      rw [decide_eq_false (show ¬ ((data.length : Nat) : Int) < ((data.length : Nat) : Int) by omega)]
      rw [List.take_length]
      refine ol_off rfl rfl rfl rfl rfl ?_; refine ol_off rfl rfl rfl rfl rfl ?_; refine ol_ev (ev_pick_f rfl rfl) rfl ?_; refine ol_nil ?_; refine cw_if_f rfl ?_; refine cw_exit ?_
      exact ⟨_, ⟨rfl, rfl, rfl, rfl, trivial⟩, rfl, Iff.rfl⟩
  · rintro l' H' ⟨st, hl', rfl, hiff⟩
    refine CW.weak hl' ?_
    clear hl'
    by_cases hm : 0 ≤ M.run 0 data ∧ atEOF = false
    · have hst : mstep M s data atEOF = ⟨0, none, none, ()⟩ := by unfold mstep; rw [if_pos hm]
      obtain ⟨h1, rfl⟩ := hm
      refine cw_seq ?_; refine cw_block ?_; refine cw_seq ?_; refine cw_region ?_; refine ol_ev (ev_move rfl) rfl ?_; refine ol_ev (ev_ge rfl rfl) rfl ?_; refine ol_ev (ev_move rfl) rfl ?_
      rw [decide_eq_true (hiff.2 h1)]
      refine ol_on rfl rfl rfl ?_; refine ol_ev (ev_move rfl) rfl ?_; refine ol_on rfl rfl rfl ?_; refine ol_ev (ev_not rfl) rfl ?_; refine ol_ev (ev_pick_t rfl rfl) rfl ?_; refine ol_ev (ev_assign rfl) rfl ?_; refine ol_nil ?_; refine cw_if_t rfl ?_; refine cw_seq ?_; refine cw_region ?_; (iterate 3 (refine ol_ev (ev_assign rfl) rfl ?_)); refine ol_nil ?_; refine cw_ret ?_
      refine ⟨_, res3 rfl rfl rfl rfl, ?_⟩
      rw [hst]
      exact ⟨_, T, rfl, rfl, hI, fun _ _ h _ => h, rfl⟩
    · refine cw_cut (fun l' H' => SubE l' [(0, .slice (some ⟨bb, off, none⟩) data.length dcap), (1, .bool atEOF), (9, .int .i64 (M.long data : Int))] ∧ H' = (bb, (⟨cells, 5, (0, 0)⟩ : HO)) :: T ∧ ¬ 0 < M.long data ∧ data = []) ?_ ?_
      · refine cw_block ?_
        refine cw_seq ?_
        refine cw_region ?_; refine ol_ev (ev_move rfl) rfl ?_; refine ol_ev (ev_ge rfl rfl) rfl ?_; refine ol_ev (ev_move rfl) rfl ?_
        by_cases h1 : 0 ≤ st
        · have he : atEOF = true := by
            cases atEOF with
            | true => rfl
            | false => exact absurd ⟨hiff.1 h1, rfl⟩ hm
          subst he
          rw [decide_eq_true h1]
          refine ol_on rfl rfl rfl ?_; refine ol_ev (ev_move rfl) rfl ?_; refine ol_on rfl rfl rfl ?_; refine ol_ev (ev_not rfl) rfl ?_; refine ol_ev (ev_pick_t rfl rfl) rfl ?_; refine ol_ev (ev_assign rfl) rfl ?_; refine ol_nil ?_; refine cw_if_f rfl ?_; refine cw_seq ?_; refine cw_region ?_; refine ol_ev (ev_move rfl) rfl ?_; refine ol_ev (ev_gt rfl rfl) rfl ?_; refine ol_ev (ev_assign rfl) rfl ?_; refine ol_nil ?_
          refine cw_ifd rfl (fun hp => ?_) (fun hp => ?_)
          · have hp' : 0 < M.long data := by omega
            have hst : mstep M s data true = ⟨((M.long data : Nat) : Int), some (data.take (M.long data)), none, ()⟩ := by unfold mstep; rw [if_neg hm, if_pos hp']
            refine cw_seq ?_
            refine cw_still mixed (by kernel_rfl) ?_
            (iterate 3 (refine sl_ev (ev_move rfl) rfl ?_))
            refine sl_ev (ev_slice_to rfl rfl (by omega) (by omega)) rfl ?_
            (iterate 3 (refine sl_ev (ev_assign rfl) rfl ?_)); refine sl_nil ?_
            refine cw_ret ?_
            refine ⟨_, res3 rfl rfl rfl rfl, ?_⟩
            rw [hst]
            refine ⟨_, T, rfl, rfl, hI, fun _ _ h _ => h, bb, off, dcap, _, ?_, m0, ?_, rfl⟩
            · rw [List.length_take, Nat.min_eq_left hll]; rfl
            · rw [List.length_take, Nat.min_eq_left hll]
              have := congrArg (List.take (M.long data)) hdat
              rw [List.take_take, Nat.min_eq_left hll, bcells_take] at this
              exact this
          · have hp' : ¬ 0 < M.long data := by omega
            by_cases hd0 : data = []
            · refine cw_seq ?_; refine cw_region ?_; refine ol_ev (ev_move rfl) rfl ?_; refine ol_ev (ev_len_s rfl) rfl ?_; refine ol_ev (ev_gt rfl rfl) rfl ?_; refine ol_ev (ev_assign rfl) rfl ?_; refine ol_nil ?_
              rw [decide_eq_false (show ¬ (0 : Int) < ((data.length : Nat) : Int) by rw [hd0]; simp)]
              refine cw_if_f rfl ?_; refine cw_skip ?_
              exact ⟨⟨rfl, rfl, rfl, trivial⟩, rfl, hp', hd0⟩
            · have hst : mstep M s data true = ⟨0, none, some 7, ()⟩ := by unfold mstep; rw [if_neg hm, if_neg hp', if_pos hd0]
              have hpos := List.length_pos_iff.2 hd0
              refine cw_seq ?_; refine cw_region ?_; refine ol_ev (ev_move rfl) rfl ?_; refine ol_ev (ev_len_s rfl) rfl ?_; refine ol_ev (ev_gt rfl rfl) rfl ?_; refine ol_ev (ev_assign rfl) rfl ?_; refine ol_nil ?_
              rw [decide_eq_true (show (0 : Int) < ((data.length : Nat) : Int) by omega)]
              refine cw_if_t rfl ?_; refine cw_seq ?_
              refine cw_still mixed (by kernel_rfl) ?_
              refine sl_ev (ev_loadW rfl hE.c7) rfl ?_
              (iterate 3 (refine sl_ev (ev_assign rfl) rfl ?_)); refine sl_nil ?_
              refine cw_ret ?_
              refine ⟨_, res3 rfl rfl rfl rfl, ?_⟩
              rw [hst]
              exact ⟨_, T, rfl, rfl, hI, fun _ _ h _ => h, rfl⟩
        · rw [decide_eq_false h1]
          refine ol_off rfl rfl rfl rfl rfl ?_; refine ol_off rfl rfl rfl rfl rfl ?_; refine ol_ev (ev_pick_f rfl rfl) rfl ?_; refine ol_ev (ev_assign rfl) rfl ?_; refine ol_nil ?_; refine cw_if_f rfl ?_; refine cw_seq ?_; refine cw_region ?_; refine ol_ev (ev_move rfl) rfl ?_; refine ol_ev (ev_gt rfl rfl) rfl ?_; refine ol_ev (ev_assign rfl) rfl ?_; refine ol_nil ?_
          refine cw_ifd rfl (fun hp => ?_) (fun hp => ?_)
          · have hp' : 0 < M.long data := by omega
            have hst : mstep M s data atEOF = ⟨((M.long data : Nat) : Int), some (data.take (M.long data)), none, ()⟩ := by unfold mstep; rw [if_neg hm, if_pos hp']
            refine cw_seq ?_
            refine cw_still mixed (by kernel_rfl) ?_
            (iterate 3 (refine sl_ev (ev_move rfl) rfl ?_))
            refine sl_ev (ev_slice_to rfl rfl (by omega) (by omega)) rfl ?_
            (iterate 3 (refine sl_ev (ev_assign rfl) rfl ?_)); refine sl_nil ?_
            refine cw_ret ?_
            refine ⟨_, res3 rfl rfl rfl rfl, ?_⟩
            rw [hst]
            refine ⟨_, T, rfl, rfl, hI, fun _ _ h _ => h, bb, off, dcap, _, ?_, m0, ?_, rfl⟩
            · rw [List.length_take, Nat.min_eq_left hll]; rfl
            · rw [List.length_take, Nat.min_eq_left hll]
              have := congrArg (List.take (M.long data)) hdat
              rw [List.take_take, Nat.min_eq_left hll, bcells_take] at this
              exact this
          · have hp' : ¬ 0 < M.long data := by omega
            by_cases hd0 : data = []
            · refine cw_seq ?_; refine cw_region ?_; refine ol_ev (ev_move rfl) rfl ?_; refine ol_ev (ev_len_s rfl) rfl ?_; refine ol_ev (ev_gt rfl rfl) rfl ?_; refine ol_ev (ev_assign rfl) rfl ?_; refine ol_nil ?_
              rw [decide_eq_false (show ¬ (0 : Int) < ((data.length : Nat) : Int) by rw [hd0]; simp)]
              refine cw_if_f rfl ?_; refine cw_skip ?_
              exact ⟨⟨rfl, rfl, rfl, trivial⟩, rfl, hp', hd0⟩
            · have hst : mstep M s data atEOF = ⟨0, none, some 7, ()⟩ := by unfold mstep; rw [if_neg hm, if_neg hp', if_pos hd0]
              have hpos := List.length_pos_iff.2 hd0
              refine cw_seq ?_; refine cw_region ?_; refine ol_ev (ev_move rfl) rfl ?_; refine ol_ev (ev_len_s rfl) rfl ?_; refine ol_ev (ev_gt rfl rfl) rfl ?_; refine ol_ev (ev_assign rfl) rfl ?_; refine ol_nil ?_
              rw [decide_eq_true (show (0 : Int) < ((data.length : Nat) : Int) by omega)]
              refine cw_if_t rfl ?_; refine cw_seq ?_
              refine cw_still mixed (by kernel_rfl) ?_
              refine sl_ev (ev_loadW rfl hE.c7) rfl ?_
              (iterate 3 (refine sl_ev (ev_assign rfl) rfl ?_)); refine sl_nil ?_
              refine cw_ret ?_
              refine ⟨_, res3 rfl rfl rfl rfl, ?_⟩
              rw [hst]
              exact ⟨_, T, rfl, rfl, hI, fun _ _ h _ => h, rfl⟩
      · rintro l' H' ⟨hl', rfl, hp, hd0⟩
        refine CW.weak hl' ?_
        have hst : mstep M s data atEOF = ⟨0, none, none, ()⟩ := by unfold mstep; rw [if_neg hm, if_neg hp, if_neg (by simp [hd0])]
        refine cw_seq ?_; refine cw_region ?_; (iterate 3 (refine ol_ev (ev_assign rfl) rfl ?_)); refine ol_nil ?_; refine cw_ret ?_
        refine ⟨_, res3 rfl rfl rfl rfl, ?_⟩
        rw [hst]
        exact ⟨_, T, rfl, rfl, hI, fun _ _ h _ => h, rfl⟩

theorem munchF_ct : Ct Tryd.prog W 36 #[.agg #[.int .i64 M.classes, nv, fv]] [] (fun v H' => ∃ mb, v = .func (.func 46) #[] [.pointer (some ⟨mb, 0, none⟩)].toArray ∧ H' = [(mb, ⟨[.int .i64 M.classes, nv, fv], 51, (0, 0)⟩)]) := by
  refine ct_of_cw (vs := [_]) Tryd.func36 rfl rfl fun w1 => ?_
  refine cw_seq ?_; refine cw_region ?_
  refine ol_box rfl rfl fun mb => ?_
  refine ol_ev (ev_assign rfl) rfl ?_; refine ol_nil ?_; refine cw_seq ?_; refine cw_region ?_; refine ol_ev (ev_mkfunc1 rfl) rfl ?_; refine ol_ev (ev_assign rfl) rfl ?_; refine ol_nil ?_; refine cw_ret ?_
  exact ⟨_, res1 rfl rfl, mb, rfl, rfl⟩

theorem munch_ct (hE : Errs W E) (hM : Mach W nv fv M) (ps : List Int) (text : List UInt8) (pv : Value) (tog : Bool) (c most : Int) (ts : List (List UInt8)) (err : Option Nat) (hpv : Pcs W pv ps) (htl : text.length ≤ 1099511627776) (hpl : ps.length ≤ 4611686018427387904) (hmost : most ≤ 9223372036854775807) (hlim : 0 < limitOf c most)
    (hr : Run (Mq M (limitOf c most).toNat) () text ts err) (he : err ≠ some 0) (htn : ts.length ≤ 1099511627777) :
    Ct Tryd.prog W 25 #[.agg #[str text, pv, .bool tog, .bool false], .agg #[.int .i64 c, .int .i64 most], .agg #[.int .i64 M.classes, nv, fv]] [] (fun v H' => ∃ u, v = .tuple #[u, .int .i64 (codeOf err)] ∧ StrsAt H' u ts) := by
  obtain ⟨k, x2, htk, hx0⟩ := all_toks (mgood (M := M) (L := (limitOf c most).toNat) (by omega)) ps hr pv tog c most htl he
  refine ct_of_cw (vs := [_, _, _]) Tryd.func25 rfl rfl fun w1 => ?_
  refine cw_seq ?_; refine cw_region ?_
  refine ol_box rfl rfl fun b3 => ?_
  refine ol_box rfl rfl fun b4 => ?_
  refine ol_box rfl rfl fun b5 => ?_
  refine ol_ev (ev_assign rfl) rfl ?_; refine ol_ev (ev_assign rfl) rfl ?_; refine ol_nil ?_; refine cw_seq ?_
  refine cw_float [(0, false), (1, false), (2, false), (3, true), (4, true), (5, true), (6, false), (7, false), (8, false), (9, false)] [(b5, ⟨[.int .i64 M.classes, nv, fv], 51, (0, 0)⟩), (b4, ⟨[.int .i64 c, .int .i64 most], 26, (0, 0)⟩), (b3, ⟨[str text, pv, .bool tog, .bool false], 24, (0, 0)⟩)] mixed (by kernel_rfl) (List.Sublist.refl _) (fun _ _ _ h => h) (fun _ _ h => h) ?_
  refine fl_ev rfl (ev_loadS (cs := [str text, pv, .bool tog, .bool false]) rfl rfl m2 rfl) rfl ?_
  refine fl_ev rfl (ev_loadS (cs := [.int .i64 c, .int .i64 most]) rfl rfl m1 rfl) rfl ?_
  refine fl_ev rfl (ev_loadS (cs := [.int .i64 M.classes, nv, fv]) rfl rfl m0 rfl) rfl ?_
  refine fl_x rfl ?_
  refine ol_call1 (G := []) (cap := []) rfl rfl rfl munchF_ct (List.Perm.refl _) ?_
  rintro v G' ⟨mb, rfl, rfl⟩
  refine ol_nil ⟨sub_right, ?_⟩
  refine fl_x rfl ?_
  refine ol_call3 (G := [(mb, ⟨[.int .i64 M.classes, nv, fv], 51, (0, 0)⟩)]) (cap := []) rfl rfl rfl rfl rfl (scanner_ct (E := E) (munch_ok hE hM mb) ps () [(mb, ⟨[.int .i64 M.classes, nv, fv], 51, (0, 0)⟩)] text pv tog false c most m0 hpv (by omega) hpl hmost) (List.Perm.refl _) ?_
  rintro v G' ⟨sb, rb, rfl, hready⟩
  refine ol_nil ⟨sub_right, ?_⟩
  refine fl_x rfl ?_
  refine ol_call1 (G := G') (cap := []) rfl rfl rfl (tokens_ct hE (munch_ok hE hM mb) ps k _ false ts x2 sb rb G' htk hready (by omega)) (List.Perm.refl _) ?_
  rintro v G'' ⟨b, sp, rfl, hmem⟩
  rw [hx0]
  refine ol_nil ⟨sub_right, ?_⟩
  refine fl_ev rfl (ev_extract rfl rfl) rfl ?_; refine fl_ev rfl (ev_extract rfl rfl) rfl ?_; refine fl_ev rfl (ev_assign rfl) rfl ?_; refine fl_ev rfl (ev_assign rfl) rfl ?_
  refine fl_nil ?_
  refine cw_ret ?_
  exact ⟨_, res2 rfl rfl rfl, _, rfl, b, _, sp, rfl, List.mem_append_left _ hmem, Nat.le_add_right _ _⟩
end
end Go.HE
