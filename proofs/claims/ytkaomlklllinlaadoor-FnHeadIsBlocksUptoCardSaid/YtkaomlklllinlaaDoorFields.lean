/- Fields with escapes, by contracts: the split function, all tokens. Conditions: the errors are as start-up lays them; the pieces lie in old memory; the text has at most 2 to the 40th bytes. -/
import Derived.Test.YtkaomlklllinlaaDoorFieldsQ
import Derived.Test.YtkaomlklllinlaaDoorTexts
set_option maxRecDepth 100000
set_option maxHeartbeats 4000000
namespace Go.HE
open Go.RowKit Go.Proofs

/-- A field so far, and what follows it. -/
def FP.pre (f : List UInt8) (n : Nat) : FP → FP
  | .stop t k => .stop (f ++ t) (n + k)
  | .over t => .over (f ++ t)
  | .esc => .esc
theorem FP.pre_add (f : List UInt8) (n : Nat) (c : UInt8) (k : Nat) (x : FP) : (x.add c k).pre f n = x.pre (f ++ [c]) (n + k) := by
  cases x with
  | stop t j => simp [FP.add, FP.pre]; omega
  | over t => simp [FP.add, FP.pre]
  | esc => rfl
theorem drop_two {d : List UInt8} {i : Nat} (h : i + 1 < d.length) : d.drop i = d[i] :: d[i + 1] :: d.drop (i + 2) := by
  rw [List.drop_eq_getElem_cons (by omega), List.drop_eq_getElem_cons h]

section
variable {W : World} {E : Nat → Addr}
theorem fields_ok (hE : Errs W E) (eb db : Nat) (dl es : UInt8) : SplitOk W E 85 [.pointer (some ⟨eb, 0, none⟩), .pointer (some ⟨db, 0, none⟩)] (estep dl es) (fun _ T => (eb, (⟨[bv es], 5, (0, 0)⟩ : HO)) ∈ T ∧ (db, (⟨[bv dl], 5, (0, 0)⟩ : HO)) ∈ T) := by
  refine ⟨by kernel_rfl, fun _ _ _ hp h => ⟨hp.subset h.1, hp.subset h.2⟩, fun _ _ _ h => ⟨List.mem_cons_of_mem _ h.1, List.mem_cons_of_mem _ h.2⟩, fun s d e c h => ?_, fun s T bb off dcap cells data atEOF hI hne hdat hle hcap hbig => ?_⟩
  · unfold estep at h
    split at h
    · cases h
    · split at h
      · cases h; omega
      · cases h
    · split at h
      · cases h; omega
      · cases h
  refine ct_of_cw (vs := [_, _, _, _]) Tryd.func85 rfl rfl fun w1 => ?_
  refine cw_seq ?_
  refine cw_region ?_; (iterate 3 (refine ol_ev (ev_assign rfl) rfl ?_)); refine ol_nil ?_
  refine cw_seq ?_
  refine cw_region ?_
  refine ol_slice0 rfl fun tb => ?_
  refine ol_ev (ev_assign rfl) rfl ?_; refine ol_nil ?_
  refine cw_cut (fun l' H' => ∃ tb f sp, SubE l' [(0, .slice (some ⟨bb, off, none⟩) data.length dcap), (1, .bool atEOF), (9, .slice (some ⟨tb, 0, none⟩) f.length (f.length + sp.length))] ∧ H' = (tb, (⟨bcells f ++ sp, 5, (0, 0)⟩ : HO)) :: (bb, (⟨cells, 5, (0, 0)⟩ : HO)) :: T ∧ fparse dl es data = .over f) ?_ ?_
  · refine cw_seq ?_; refine cw_region ?_; refine ol_ev (ev_assign rfl) rfl ?_; refine ol_nil ?_; refine cw_block ?_
    refine cw_loop (σ := Nat × Nat × List UInt8 × List Value) (fun g => [(0, .slice (some ⟨bb, off, none⟩) data.length dcap), (1, .bool atEOF), (2, .pointer (some ⟨eb, 0, none⟩)), (3, .pointer (some ⟨db, 0, none⟩)), (9, .slice (some ⟨g.2.1, 0, none⟩) g.2.2.1.length (g.2.2.1.length + g.2.2.2.length)), (10, .int .i64 (g.1 : Int))]) (fun g => (g.2.1, (⟨bcells g.2.2.1 ++ g.2.2.2, 5, (0, 0)⟩ : HO)) :: (bb, (⟨cells, 5, (0, 0)⟩ : HO)) :: T)
      (fun g => g.1 ≤ data.length ∧ g.2.2.1.length ≤ g.1 ∧ fparse dl es data = (fparse dl es (data.drop g.1)).pre g.2.2.1 g.1) (fun g => data.length - g.1) (0, tb, [], []) ⟨Nat.zero_le _, by simp, by
        show fparse dl es data = (fparse dl es (data.drop 0)).pre [] 0
        rw [List.drop_zero]
        cases fparse dl es data <;> simp [FP.pre]⟩ (fun a ha => ha.weak ⟨rfl, rfl, rfl, rfl, rfl, rfl, trivial⟩) rfl ?_
    rintro ⟨i, tb, f, sp⟩ ⟨hi, hfl, hpar⟩
    simp only at hi hfl hpar ⊢
    have hE' : (eb, (⟨[bv es], 5, (0, 0)⟩ : HO)) ∈ (tb, (⟨bcells f ++ sp, 5, (0, 0)⟩ : HO)) :: (bb, (⟨cells, 5, (0, 0)⟩ : HO)) :: T := List.mem_cons_of_mem _ (List.mem_cons_of_mem _ hI.1)
    have hD' : (db, (⟨[bv dl], 5, (0, 0)⟩ : HO)) ∈ (tb, (⟨bcells f ++ sp, 5, (0, 0)⟩ : HO)) :: (bb, (⟨cells, 5, (0, 0)⟩ : HO)) :: T := List.mem_cons_of_mem _ (List.mem_cons_of_mem _ hI.2)
    refine cw_seq ?_; refine cw_seq ?_; refine cw_region ?_; refine ol_ev (ev_move rfl) rfl ?_; refine ol_ev (ev_move rfl) rfl ?_; refine ol_ev (ev_len_s rfl) rfl ?_; refine ol_ev (ev_lt rfl rfl) rfl ?_; refine ol_nil ?_
    refine cw_ifd rfl (fun h2 => ?_) (fun h2 => ?_)
    · have hx : i < data.length := by omega
      have k1 : cells[off + ((i : Nat) : Int).toNat]? = some (bv data[i]) := cell_at hdat hx
      refine cw_skip ?_; refine cw_seq ?_; refine cw_block ?_; refine cw_block ?_; refine cw_seq ?_
      refine cw_still mixed (by kernel_rfl) ?_
      refine sl_ev (ev_move rfl) rfl ?_; refine sl_ev (ev_move rfl) rfl ?_
      refine sl_ev (ev_idx1 rfl rfl (by omega) (by omega)) rfl ?_
      refine sl_ev (ev_load rfl m1 k1) rfl ?_
      refine sl_ev (ev_load rfl hE' rfl) rfl ?_
      refine sl_ev (ev_eq rfl rfl) rfl ?_; refine sl_ev (ev_move rfl) rfl ?_
      by_cases hb : data[i] = es
      · rw [decide_eq_true ((bv_dec _ _).2 hb)]
        by_cases hlast : i + 1 < data.length
        · have k2 : cells[off + (((i : Nat) : Int) + 1).toNat]? = some (bv data[i + 1]) := by
            have : (((i : Nat) : Int) + 1).toNat = i + 1 := by omega
            rw [this]; exact cell_at hdat hlast
          refine sl_on rfl rfl rfl ?_; refine sl_ev (ev_move rfl) rfl ?_; refine sl_on rfl rfl rfl ?_; (refine sl_ev (ev_add rfl rfl ?_) rfl ?_; (constructor <;> omega)); refine sl_on rfl rfl rfl ?_; refine sl_ev (ev_move rfl) rfl ?_; refine sl_on rfl rfl rfl ?_; refine sl_ev (ev_len_s rfl) rfl ?_; refine sl_on rfl rfl rfl ?_; refine sl_ev (ev_lt rfl rfl) rfl ?_; refine sl_ev (ev_pick_t rfl rfl) rfl ?_; refine sl_ev (ev_assign rfl) rfl ?_; refine sl_nil ?_
          rw [decide_eq_true (show ((i : Nat) : Int) + 1 < ((data.length : Nat) : Int) by omega)]
          skip
          refine cw_if_t rfl ?_; refine cw_seq ?_; refine cw_region ?_; refine ol_ev (ev_move rfl) rfl ?_; (refine ol_ev (ev_add rfl rfl ?_) rfl ?_; (constructor <;> omega)); refine ol_ev (ev_assign rfl) rfl ?_; refine ol_nil ?_; refine cw_region ?_; (iterate 3 (refine ol_ev (ev_move rfl) rfl ?_))
          refine ol_ev (ev_idx1 rfl rfl (by omega) (by omega)) rfl ?_
          refine ol_ev (ev_load rfl m1 k2) rfl ?_
          refine ol_slice1 rfl rfl rfl rfl fun b1 => ?_
          refine ol_append (xs := bcells f) (sp := sp) (ys := [bv data[i + 1]]) rfl rfl (fun _ _ => r1) m0 (by simp [bcells]) (by simp [bcells]) rfl rfl (by intro u hu; simp only [List.mem_singleton] at hu; subst hu; rfl) rfl (by omega) (by omega) rfl ?_
          intro b' sp'
          refine OL.less (List.sublist_cons_self _ _) ?_
          refine ol_ev (ev_assign rfl) rfl ?_; refine ol_nil ?_; refine cw_region ?_; refine ol_ev (ev_move rfl) rfl ?_; (refine ol_ev (ev_add rfl rfl ?_) rfl ?_; (constructor <;> omega)); refine ol_ev (ev_assign rfl) rfl ?_; refine ol_nil ?_
          refine ⟨(i + 2, b', f ++ [data[i + 1]], sp'), ⟨by show i + 2 ≤ data.length; omega, by show (f ++ [data[i + 1]]).length ≤ i + 2; simp; omega, ?_⟩, ⟨rfl, rfl, rfl, rfl, ?_, rfl, trivial⟩, ?_, by show data.length - (i + 2) < data.length - i; omega⟩
          · show fparse dl es data = (fparse dl es (data.drop (i + 2))).pre (f ++ [data[i + 1]]) (i + 2)
            rw [hpar, drop_two hlast, hb, fparse_escd, FP.pre_add]
          · show some (Value.slice _ _ _) = some (Value.slice _ _ _)
            simp [bcells]
          · show _ :: _ = _ :: _
            rw [bcells_append]; rfl
        · have hpe : fparse dl es data = .esc := by
            rw [hpar, List.drop_eq_getElem_cons hx, List.drop_of_length_le (by omega), hb]
            unfold fparse
            rw [if_pos rfl]; rfl
          refine sl_on rfl rfl rfl ?_; refine sl_ev (ev_move rfl) rfl ?_; refine sl_on rfl rfl rfl ?_; (refine sl_ev (ev_add rfl rfl ?_) rfl ?_; (constructor <;> omega)); refine sl_on rfl rfl rfl ?_; refine sl_ev (ev_move rfl) rfl ?_; refine sl_on rfl rfl rfl ?_; refine sl_ev (ev_len_s rfl) rfl ?_; refine sl_on rfl rfl rfl ?_; refine sl_ev (ev_lt rfl rfl) rfl ?_; refine sl_ev (ev_pick_t rfl rfl) rfl ?_; refine sl_ev (ev_assign rfl) rfl ?_; refine sl_nil ?_
          rw [decide_eq_false (show ¬ ((i : Nat) : Int) + 1 < ((data.length : Nat) : Int) by omega)]
          skip
          refine cw_if_f rfl ?_; refine cw_seq ?_
          refine cw_still mixed (by kernel_rfl) ?_
          refine sl_ev (ev_move rfl) rfl ?_; refine sl_ev (ev_move rfl) rfl ?_
          refine sl_ev (ev_idx1 rfl rfl (by omega) (by omega)) rfl ?_
          refine sl_ev (ev_load rfl m1 k1) rfl ?_
          refine sl_ev (ev_load rfl hE' rfl) rfl ?_
          refine sl_ev (ev_eq rfl rfl) rfl ?_; refine sl_ev (ev_move rfl) rfl ?_
          rw [decide_eq_true ((bv_dec _ _).2 hb)]
          cases atEOF with
          | true =>
            have hst : estep dl es s data true = ⟨0, none, some 7, ()⟩ := by unfold estep; rw [hpe]; rfl
            refine sl_on rfl rfl rfl ?_; refine sl_ev (ev_move rfl) rfl ?_; refine sl_ev (ev_pick_t rfl rfl) rfl ?_; refine sl_ev (ev_assign rfl) rfl ?_; refine sl_nil ?_
            refine cw_if_t rfl ?_; refine cw_seq ?_
            refine cw_still mixed (by kernel_rfl) ?_
            refine sl_ev (ev_loadW rfl hE.c7) rfl ?_
            (iterate 3 (refine sl_ev (ev_assign rfl) rfl ?_)); refine sl_nil ?_
            refine CW.perm (List.Perm.swap _ _ _) ?_
            refine cw_ret ?_
            refine ⟨_, res3 rfl rfl rfl rfl, ?_⟩
            rw [hst]
            exact ⟨_, (tb, ⟨bcells f ++ sp, 5, (0, 0)⟩) :: T, rfl, rfl, ⟨List.mem_cons_of_mem _ hI.1, List.mem_cons_of_mem _ hI.2⟩, fun _ _ h _ => List.mem_cons_of_mem _ h, rfl⟩
          | false =>
            have hst : estep dl es s data false = ⟨0, none, none, ()⟩ := by unfold estep; rw [hpe]; rfl
            refine sl_on rfl rfl rfl ?_; refine sl_ev (ev_move rfl) rfl ?_; refine sl_ev (ev_pick_t rfl rfl) rfl ?_; refine sl_ev (ev_assign rfl) rfl ?_; refine sl_nil ?_
            refine cw_if_f rfl ?_; refine cw_seq ?_
            refine cw_still mixed (by kernel_rfl) ?_
            refine sl_ev (ev_move rfl) rfl ?_; refine sl_ev (ev_move rfl) rfl ?_
            refine sl_ev (ev_idx1 rfl rfl (by omega) (by omega)) rfl ?_
            refine sl_ev (ev_load rfl m1 k1) rfl ?_
            refine sl_ev (ev_load rfl hE' rfl) rfl ?_
            refine sl_ev (ev_eq rfl rfl) rfl ?_; refine sl_ev (ev_assign rfl) rfl ?_; refine sl_nil ?_
            rw [decide_eq_true ((bv_dec _ _).2 hb)]
            skip
            refine CW.perm (List.Perm.swap _ _ _) ?_
            refine cw_if_t rfl ?_; refine cw_seq ?_; refine cw_region ?_; (iterate 3 (refine ol_ev (ev_assign rfl) rfl ?_)); refine ol_nil ?_; refine cw_ret ?_
            refine ⟨_, res3 rfl rfl rfl rfl, ?_⟩
            rw [hst]
            exact ⟨_, (tb, ⟨bcells f ++ sp, 5, (0, 0)⟩) :: T, rfl, rfl, ⟨List.mem_cons_of_mem _ hI.1, List.mem_cons_of_mem _ hI.2⟩, fun _ _ h _ => List.mem_cons_of_mem _ h, rfl⟩
      · have hbf : ¬ ((data[i].toNat : Nat) : Int) = ((es.toNat : Nat) : Int) := fun h => hb ((bv_dec _ _).1 h)
        rw [decide_eq_false hbf]
        (iterate 5 (refine sl_off rfl rfl rfl rfl rfl ?_)); refine sl_ev (ev_pick_f rfl rfl) rfl ?_; refine sl_ev (ev_assign rfl) rfl ?_; refine sl_nil ?_
        refine cw_if_f rfl ?_; refine cw_seq ?_
        refine cw_still mixed (by kernel_rfl) ?_
        refine sl_ev (ev_move rfl) rfl ?_; refine sl_ev (ev_move rfl) rfl ?_
        refine sl_ev (ev_idx1 rfl rfl (by omega) (by omega)) rfl ?_
        refine sl_ev (ev_load rfl m1 k1) rfl ?_
        refine sl_ev (ev_load rfl hE' rfl) rfl ?_
        refine sl_ev (ev_eq rfl rfl) rfl ?_; refine sl_ev (ev_move rfl) rfl ?_
        rw [decide_eq_false hbf]
        refine sl_off rfl rfl rfl rfl rfl ?_; refine sl_ev (ev_pick_f rfl rfl) rfl ?_; refine sl_ev (ev_assign rfl) rfl ?_; refine sl_nil ?_
        refine cw_if_f rfl ?_; refine cw_seq ?_
        refine cw_still mixed (by kernel_rfl) ?_
        refine sl_ev (ev_move rfl) rfl ?_; refine sl_ev (ev_move rfl) rfl ?_
        refine sl_ev (ev_idx1 rfl rfl (by omega) (by omega)) rfl ?_
        refine sl_ev (ev_load rfl m1 k1) rfl ?_
        refine sl_ev (ev_load rfl hE' rfl) rfl ?_
        refine sl_ev (ev_eq rfl rfl) rfl ?_; refine sl_ev (ev_assign rfl) rfl ?_; refine sl_nil ?_
        rw [decide_eq_false hbf]
        skip
        refine cw_if_f rfl ?_; refine cw_seq ?_
        refine cw_still mixed (by kernel_rfl) ?_
        refine sl_ev (ev_move rfl) rfl ?_; refine sl_ev (ev_move rfl) rfl ?_
        refine sl_ev (ev_idx1 rfl rfl (by omega) (by omega)) rfl ?_
        refine sl_ev (ev_load rfl m1 k1) rfl ?_
        refine sl_ev (ev_load rfl hD' rfl) rfl ?_
        refine sl_ev (ev_eq rfl rfl) rfl ?_; refine sl_ev (ev_assign rfl) rfl ?_; refine sl_nil ?_
        refine cw_ifd rfl (fun h3 => ?_) (fun h3 => ?_)
        · have hd : data[i] = dl := (bv_dec _ _).1 h3
          have hps : fparse dl es data = .stop f (i + 1) := by
            rw [hpar, List.drop_eq_getElem_cons hx, hd, fparse_delim (by rw [← hd]; exact hb)]
            simp [FP.pre]
          have hst : estep dl es s data atEOF = ⟨((i + 1 : Nat) : Int), some f, none, ()⟩ := by unfold estep; rw [hps]
          refine CW.perm (List.Perm.swap _ _ _) ?_
          refine cw_seq ?_; refine cw_region ?_; refine ol_ev (ev_move rfl) rfl ?_; (refine ol_ev (ev_add rfl rfl ?_) rfl ?_; (constructor <;> omega)); refine ol_ev (ev_move rfl) rfl ?_; (iterate 3 (refine ol_ev (ev_assign rfl) rfl ?_)); refine ol_nil ?_; refine cw_ret ?_
          refine ⟨_, res3 rfl rfl rfl rfl, ?_⟩
          rw [hst]
          refine ⟨_, (tb, ⟨bcells f ++ sp, 5, (0, 0)⟩) :: T, rfl, rfl, ⟨List.mem_cons_of_mem _ hI.1, List.mem_cons_of_mem _ hI.2⟩, fun _ _ h _ => List.mem_cons_of_mem _ h, tb, 0, _, _, rfl, m1, ?_, rfl, Nat.le_add_right _ _⟩
          show (bcells f ++ sp).take f.length = bcells f
          rw [show f.length = (bcells f).length by simp [bcells]]
          simp
        · have hd : data[i] ≠ dl := fun h => h3 ((bv_dec _ _).2 h)
          refine cw_region ?_; (iterate 3 (refine ol_ev (ev_move rfl) rfl ?_))
          refine ol_ev (ev_idx1 rfl rfl (by omega) (by omega)) rfl ?_
          refine ol_ev (ev_load rfl m1 k1) rfl ?_
          refine ol_slice1 rfl rfl rfl rfl fun b1 => ?_
          refine ol_append (xs := bcells f) (sp := sp) (ys := [bv data[i]]) rfl rfl (fun _ _ => r1) m0 (by simp [bcells]) (by simp [bcells]) rfl rfl (by intro u hu; simp only [List.mem_singleton] at hu; subst hu; rfl) rfl (by omega) (by omega) rfl ?_
          intro b' sp'
          refine OL.less (List.sublist_cons_self _ _) ?_
          refine ol_ev (ev_assign rfl) rfl ?_; refine ol_nil ?_; refine cw_region ?_; refine ol_ev (ev_move rfl) rfl ?_; (refine ol_ev (ev_add rfl rfl ?_) rfl ?_; (constructor <;> omega)); refine ol_ev (ev_assign rfl) rfl ?_; refine ol_nil ?_
          refine ⟨(i + 1, b', f ++ [data[i]], sp'), ⟨hx, by show (f ++ [data[i]]).length ≤ i + 1; simp; omega, ?_⟩, ⟨rfl, rfl, rfl, rfl, ?_, rfl, trivial⟩, ?_, by show data.length - (i + 1) < data.length - i; omega⟩
          · show fparse dl es data = (fparse dl es (data.drop (i + 1))).pre (f ++ [data[i]]) (i + 1)
            rw [hpar, List.drop_eq_getElem_cons hx, fparse_plain hb hd, FP.pre_add]
          · show some (Value.slice _ _ _) = some (Value.slice _ _ _)
            simp [bcells]
          · show _ :: _ = _ :: _
            rw [bcells_append]; rfl
    · refine cw_exit ?_
      refine ⟨tb, f, sp, ⟨rfl, rfl, rfl, trivial⟩, rfl, ?_⟩
      rw [hpar, List.drop_of_length_le (by omega)]
      simp [fparse, FP.pre]
  · rintro l' H' ⟨tb, f, sp, hl', rfl, hpo⟩
    refine CW.weak hl' ?_
    clear hl'
    refine CW.perm (List.Perm.swap _ _ _) ?_
    cases atEOF with
    | false =>
      have hst : estep dl es s data false = ⟨0, none, none, ()⟩ := by unfold estep; rw [hpo]; rfl
      refine cw_seq ?_; refine cw_seq ?_; refine cw_region ?_; refine ol_ev (ev_move rfl) rfl ?_; refine ol_nil ?_; refine cw_if_f rfl ?_; refine cw_skip ?_; refine cw_seq ?_; refine cw_region ?_; (iterate 3 (refine ol_ev (ev_assign rfl) rfl ?_)); refine ol_nil ?_; refine cw_ret ?_
      refine ⟨_, res3 rfl rfl rfl rfl, ?_⟩
      rw [hst]
      exact ⟨_, (tb, ⟨bcells f ++ sp, 5, (0, 0)⟩) :: T, rfl, rfl, ⟨List.mem_cons_of_mem _ hI.1, List.mem_cons_of_mem _ hI.2⟩, fun _ _ h _ => List.mem_cons_of_mem _ h, rfl⟩
    | true =>
      have hst : estep dl es s data true = ⟨data.length, some f, some 6, ()⟩ := by unfold estep; rw [hpo]; rfl
      refine cw_seq ?_; refine cw_seq ?_; refine cw_region ?_; refine ol_ev (ev_move rfl) rfl ?_; refine ol_nil ?_; refine cw_if_t rfl ?_; refine cw_seq ?_
      refine cw_still mixed (by kernel_rfl) ?_
      refine sl_ev (ev_move rfl) rfl ?_; refine sl_ev (ev_len_s rfl) rfl ?_; refine sl_ev (ev_move rfl) rfl ?_
      refine sl_ev (ev_loadW rfl hE.c6) rfl ?_
      (iterate 3 (refine sl_ev (ev_assign rfl) rfl ?_)); refine sl_nil ?_
      refine cw_ret ?_
      refine ⟨_, res3 rfl rfl rfl rfl, ?_⟩
      rw [hst]
      refine ⟨_, (tb, ⟨bcells f ++ sp, 5, (0, 0)⟩) :: T, rfl, rfl, ⟨List.mem_cons_of_mem _ hI.1, List.mem_cons_of_mem _ hI.2⟩, fun _ _ h _ => List.mem_cons_of_mem _ h, tb, 0, _, _, rfl, m1, ?_, rfl, Nat.le_add_right _ _⟩
      show (bcells f ++ sp).take f.length = bcells f
      rw [show f.length = (bcells f).length by simp [bcells]]
      simp

theorem fieldsF_ct (dl es : UInt8) :
    Ct Tryd.prog W 71 #[bv dl, bv es] [] (fun v H' => ∃ eb db, v = .func (.func 85) #[] [.pointer (some ⟨eb, 0, none⟩), .pointer (some ⟨db, 0, none⟩)].toArray ∧ H' = [(eb, ⟨[bv es], 5, (0, 0)⟩), (db, ⟨[bv dl], 5, (0, 0)⟩)]) := by
  refine ct_of_cw (vs := [_, _]) Tryd.func71 rfl rfl fun w1 => ?_
  refine cw_seq ?_; refine cw_region ?_
  refine ol_box rfl rfl fun db => ?_
  refine ol_box rfl rfl fun eb => ?_
  refine ol_ev (ev_assign rfl) rfl ?_; refine ol_nil ?_; refine cw_seq ?_; refine cw_region ?_; refine ol_ev (ev_mkfunc2 rfl rfl) rfl ?_; refine ol_ev (ev_assign rfl) rfl ?_; refine ol_nil ?_; refine cw_ret ?_
  exact ⟨_, res1 rfl rfl, eb, db, rfl, rfl⟩

end
end Go.HE
