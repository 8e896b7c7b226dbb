/- The reference's automaton, by contracts. Conditions: the automaton lies in old memory; the text has at most 2 to the 40th bytes. -/
import Derived.Test.YtmiioacpejmndaaDoorMunch
set_option maxRecDepth 100000
set_option maxHeartbeats 4000000
namespace Go.HE
open Go.RowKit Go.Proofs

instance : TAgg Tryd.prog 54 3 := ⟨by kernel_rfl, by kernel_rfl⟩
instance : TRow Tryd.prog 54 (.agg #[.int .i64 0, .slice none 0 0, .slice none 0 0]) [(0, 1), (1, 1), (2, 1)] := ⟨by kernel_rfl, by kernel_rfl⟩

theorem munch_ne0 {e : Option Nat} (h : e = none ∨ e = some 7) : e ≠ some 0 := by rcases h with rfl | rfl <;> simp
theorem Au.best_acc (M : Au) (d : List UInt8) : ∀ n, 0 < M.best d n → M.acc (M.run 0 (d.take (M.best d n))) = true
  | 0, h => by simp [Au.best] at h
  | n + 1, h => by
    unfold Au.best at h ⊢
    by_cases ha : M.acc (M.run 0 (d.take (n + 1))) = true
    · rw [if_pos ha]; exact ha
    · rw [if_neg ha] at h ⊢; exact M.best_acc d n h
theorem Au.best_max (M : Au) (d : List UInt8) : ∀ n k, M.best d n < k → k ≤ n → M.acc (M.run 0 (d.take k)) = false
  | 0, k, h, hk => by simp [Au.best] at h; omega
  | n + 1, k, h, hk => by
    unfold Au.best at h
    by_cases ha : M.acc (M.run 0 (d.take (n + 1))) = true
    · rw [if_pos ha] at h; omega
    · rw [if_neg ha] at h
      by_cases hk1 : k = n + 1
      · rw [hk1]; simpa using ha
      · exact M.best_max d n k h (by omega)
theorem Au.acc_of_dead (M : Au) {d : List UInt8} {i : Nat} (hi : i ≤ d.length) (h : M.run 0 (d.take i) < 0) : M.acc (M.run 0 d) = false :=
  M.acc_dead ((M.dead_iff d).1 ⟨i, hi, h⟩)

section
variable {W : World} {E : Nat → Addr} {nv fv : Value} {M : Au}
theorem automaton_ct (hM : Mach W nv fv M) : Ct Tryd.prog W 27 #[.agg #[.int .i64 M.classes, nv, fv]] [] (fun v _ => v = .agg #[.int .i64 M.classes, nv, fv]) := by
  obtain ⟨⟨na, ncap, rfl, _⟩, ⟨fa, fcap, rfl, _⟩⟩ := hM
  refine ct_of_cw (vs := [_]) Tryd.func27 rfl rfl fun w1 => ?_
  refine cw_seq ?_; refine cw_region ?_
  refine ol_box rfl rfl fun b1 => ?_
  refine ol_alloc rfl fun b2 => ?_
  refine ol_nil ?_; refine cw_seq ?_; refine cw_region ?_; refine ol_ev (ev_fld rfl) rfl ?_; refine ol_ev (ev_load rfl m1 rfl) rfl ?_; refine ol_ev (ev_fld rfl) rfl ?_; refine ol_ev (ev_load rfl m1 rfl) rfl ?_; refine ol_ev (ev_fld rfl) rfl ?_; refine ol_ev (ev_load rfl m1 rfl) rfl ?_
  refine ol_ev (ev_build3 rfl rfl rfl rfl) rfl ?_
  refine ol_storeS (o := ⟨[.int .i64 0, .slice none 0 0, .slice none 0 0], 54, (0, 0)⟩) (cs := [.int .i64 M.classes, .slice na M.next.length ncap, .slice fa M.final.length fcap]) rfl rfl rfl (by simp [Value.oneCell']) u0 rfl rfl ?_
  refine ol_nil ?_; refine cw_ret ?_
  exact ⟨_, resC (cs := [.int .i64 M.classes, .slice na M.next.length ncap, .slice fa M.final.length fcap]) rfl rfl rfl m0 rfl, rfl⟩

theorem specAccepts_ct (hM : Mach W nv fv M) (d : List UInt8) (hl : d.length ≤ 1099511627776) : Ct Tryd.prog W 29 #[.agg #[.int .i64 M.classes, nv, fv], str d] [] (fun v _ => v = .bool (M.acc (M.run 0 d))) := by
  obtain ⟨⟨na, ncap, rfl, hn⟩, ⟨fa, fcap, rfl, hf⟩⟩ := hM
  refine ct_of_cw (vs := [_, _]) Tryd.func29 rfl rfl fun w1 => ?_
  refine cw_seq ?_; refine cw_region ?_
  refine ol_box rfl rfl fun b2 => ?_
  refine ol_ev (ev_assign rfl) rfl ?_; refine ol_nil ?_; refine cw_seq ?_; refine cw_region ?_; refine ol_ev (ev_assign rfl) rfl ?_; refine ol_nil ?_; refine cw_seq ?_; refine cw_seq ?_; refine cw_region ?_; refine ol_ev (ev_assign rfl) rfl ?_; refine ol_nil ?_; refine cw_block ?_
  refine cw_loop (σ := Nat) (fun i => [(1, str d), (2, .pointer (some ⟨b2, 0, none⟩)), (5, .int .i64 (M.run 0 (d.take i))), (6, .int .i64 (i : Int))]) (fun _ => [(b2, (⟨[.int .i64 M.classes, .slice na M.next.length ncap, .slice fa M.final.length fcap], 54, (0, 0)⟩ : HO))])
    (fun i => i ≤ d.length) (fun i => d.length - i) 0 (Nat.zero_le _) (fun a ha => ha.weak ⟨rfl, rfl, rfl, rfl, trivial⟩) rfl ?_
  intro i hi
  refine cw_seq ?_; refine cw_seq ?_; refine cw_region ?_; refine ol_ev (ev_move rfl) rfl ?_; refine ol_ev (ev_move rfl) rfl ?_; refine ol_ev (ev_len_str rfl) rfl ?_; refine ol_ev (ev_lt rfl rfl) rfl ?_; refine ol_nil ?_
  refine cw_ifd rfl (fun h2 => ?_) (fun h2 => ?_)
  · have hx : i < d.length := by omega
    have hget : d[((i : Nat) : Int).toNat]? = some d[i] := by rw [show ((i : Nat) : Int).toNat = i by omega]; exact List.getElem?_eq_getElem hx
    have hrun : M.step (M.run 0 (d.take i)) d[i] = M.run 0 (d.take (i + 1)) := by rw [take_snoc hx, M.run_append]; rfl
    have hdd : M.run 0 (d.take i) < 0 → M.acc (M.run 0 d) = false := fun h => M.acc_of_dead (i := i) (by omega) h
    have hdd1 : M.run 0 (d.take (i + 1)) < 0 → M.acc (M.run 0 d) = false := fun h => M.acc_of_dead (i := i + 1) hx h
    rw [← hrun] at hdd1
    generalize hs : M.run 0 (d.take i) = s at hdd hdd1 hrun
    refine cw_skip ?_
    refine cw_seq ?_
    refine cw_block ?_
    refine cw_seq ?_
    refine cw_region ?_; refine ol_ev (ev_fld rfl) rfl ?_; refine ol_ev (ev_load rfl m0 rfl) rfl ?_; refine ol_ev (ev_assign rfl) rfl ?_; refine ol_nil ?_
    refine cw_cut (fun l' H' => SubE l' [(1, str d), (2, .pointer (some ⟨b2, 0, none⟩)), (5, .int .i64 s), (6, .int .i64 (i : Int)), (7, .int .i64 (max M.classes 1))] ∧ H' = [(b2, (⟨[.int .i64 M.classes, .slice na M.next.length ncap, .slice fa M.final.length fcap], 54, (0, 0)⟩ : HO))]) ?_ ?_
    · refine cw_seq ?_; refine cw_region ?_; refine ol_ev (ev_move rfl) rfl ?_; refine ol_ev (ev_lt rfl rfl) rfl ?_; refine ol_nil ?_
      refine cw_ifd rfl (fun h3 => ?_) (fun h3 => ?_)
      · refine cw_region ?_; refine ol_ev (ev_assign rfl) rfl ?_; refine ol_nil ?_
        refine ⟨⟨rfl, rfl, rfl, rfl, ?_, trivial⟩, rfl⟩
        rw [show max M.classes 1 = 1 by omega]; rfl
      · refine cw_skip ?_
        refine ⟨⟨rfl, rfl, rfl, rfl, ?_, trivial⟩, rfl⟩
        rw [show max M.classes 1 = M.classes by omega]; rfl
    rintro l' H' ⟨hl', rfl⟩
    refine CW.weak hl' ?_
    clear hl'
    have hk : (((d[i].toNat : Nat) : Int) % max M.classes 1) = ((M.cls d[i] : Nat) : Int) := by
      unfold Au.cls
      have : 0 ≤ ((d[i].toNat : Nat) : Int) % max M.classes 1 := Int.emod_nonneg _ (by omega)
      omega
    refine cw_seq ?_; refine cw_region ?_; refine ol_ev (ev_move rfl) rfl ?_; refine ol_ev (ev_move rfl) rfl ?_
    refine ol_ev (ev_index_str rfl rfl (by omega) hget) rfl ?_
    refine ol_ev (ev_conv_int rfl (wrap_u8' _)) rfl ?_
    refine ol_ev (ev_move rfl) rfl ?_
    refine ol_ev (ev_rem rfl rfl (by omega) (by omega)) rfl ?_
    rw [hk]
    refine ol_ev (ev_assign rfl) rfl ?_; refine ol_nil ?_; refine cw_seq ?_; refine cw_seq ?_; refine cw_region ?_; refine ol_ev (ev_move rfl) rfl ?_; refine ol_ev (ev_lt rfl rfl) rfl ?_; refine ol_ev (ev_move rfl) rfl ?_
    by_cases h0 : s < 0
    · rw [decide_eq_true h0]
      (iterate 5 (refine ol_off rfl rfl rfl rfl rfl ?_)); refine ol_ev (ev_pick_t rfl rfl) rfl ?_; refine ol_ev (ev_move rfl) rfl ?_; (iterate 8 (refine ol_off rfl rfl rfl rfl rfl ?_)); refine ol_ev (ev_pick_t rfl rfl) rfl ?_; refine ol_nil ?_; refine cw_if_t rfl ?_; refine cw_seq ?_; refine cw_region ?_; refine ol_ev (ev_assign rfl) rfl ?_; refine ol_nil ?_; refine cw_ret ?_
      refine ⟨_, res1 rfl rfl, ?_⟩
      rw [hdd h0]
    rw [decide_eq_false h0]
    refine ol_on rfl rfl rfl ?_; refine ol_ev (ev_move rfl) rfl ?_; refine ol_on rfl rfl rfl ?_; refine ol_ev (ev_fld rfl) rfl ?_; refine ol_on rfl rfl rfl ?_; refine ol_ev (ev_load rfl m0 rfl) rfl ?_; refine ol_on rfl rfl rfl ?_; refine ol_ev (ev_len_s rfl) rfl ?_; refine ol_on rfl rfl rfl ?_; refine ol_ev (ev_ge rfl rfl) rfl ?_; refine ol_ev (ev_pick_f rfl rfl) rfl ?_; refine ol_ev (ev_move rfl) rfl ?_
    by_cases h1 : ((M.next.length : Nat) : Int) ≤ s
    · rw [decide_eq_true h1]
      (iterate 8 (refine ol_off rfl rfl rfl rfl rfl ?_)); refine ol_ev (ev_pick_t rfl rfl) rfl ?_; refine ol_nil ?_; refine cw_if_t rfl ?_; refine cw_seq ?_; refine cw_region ?_; refine ol_ev (ev_assign rfl) rfl ?_; refine ol_nil ?_; refine cw_ret ?_
      refine ⟨_, res1 rfl rfl, ?_⟩
      rw [hdd1 (by unfold Au.step; rw [if_neg h0, List.getElem?_eq_none (by omega)]; show (-1 : Int) < 0; omega)]
    rw [decide_eq_false h1]
    have hlt : s.toNat < M.next.length := by omega
    obtain ⟨b, off, u, e1, hcu, ⟨pa, pcap, rfl, hp⟩⟩ := hn s.toNat _ (List.getElem?_eq_getElem hlt)
    subst e1
    refine ol_on rfl rfl rfl ?_; refine ol_ev (ev_move rfl) rfl ?_; refine ol_on rfl rfl rfl ?_; refine ol_ev (ev_fld rfl) rfl ?_; refine ol_on rfl rfl rfl ?_; refine ol_ev (ev_load rfl m0 rfl) rfl ?_; refine ol_on rfl rfl rfl ?_; refine ol_ev (ev_move rfl) rfl ?_; refine ol_on rfl rfl rfl ?_
    refine ol_ev (ev_idx1 rfl rfl (by omega) (by omega)) rfl ?_
    refine ol_on rfl rfl rfl ?_
    refine ol_ev (ev_loadW rfl hcu) rfl ?_
    refine ol_on rfl rfl rfl ?_; refine ol_ev (ev_len_s rfl) rfl ?_; refine ol_on rfl rfl rfl ?_; refine ol_ev (ev_ge rfl rfl) rfl ?_; refine ol_ev (ev_pick_f rfl rfl) rfl ?_; refine ol_nil ?_
    refine cw_ifd rfl (fun h3 => ?_) (fun h3 => ?_)
    · refine cw_seq ?_; refine cw_region ?_; refine ol_ev (ev_assign rfl) rfl ?_; refine ol_nil ?_; refine cw_ret ?_
      refine ⟨_, res1 rfl rfl, ?_⟩
      rw [hdd1 (by unfold Au.step; rw [if_neg h0, List.getElem?_eq_getElem hlt]; simp only; rw [List.getElem?_eq_none (by omega)]; show (-1 : Int) < 0; omega)]
    have hlk : M.cls d[i] < M.next[s.toNat].length := by omega
    obtain ⟨b', off', e2, hcell⟩ := hp (M.cls d[i]) _ (List.getElem?_eq_getElem hlk)
    subst e2
    refine cw_skip ?_; refine cw_region ?_; refine ol_ev (ev_fld rfl) rfl ?_; refine ol_ev (ev_load rfl m0 rfl) rfl ?_; refine ol_ev (ev_move rfl) rfl ?_
    refine ol_ev (ev_idx1 rfl rfl (by omega) (by omega)) rfl ?_
    refine ol_ev (ev_loadW rfl hcu) rfl ?_
    refine ol_ev (ev_move rfl) rfl ?_
    refine ol_ev (ev_idx1 rfl rfl (by omega) (by omega)) rfl ?_
    refine ol_ev (ev_loadW rfl hcell) rfl ?_
    refine ol_ev (ev_assign rfl) rfl ?_; refine ol_nil ?_; refine cw_region ?_; refine ol_ev (ev_move rfl) rfl ?_; (refine ol_ev (ev_add rfl rfl ?_) rfl ?_; (constructor <;> omega)); refine ol_ev (ev_assign rfl) rfl ?_; refine ol_nil ?_
    refine ⟨i + 1, hx, ⟨rfl, rfl, ?_, rfl, trivial⟩, rfl, by omega⟩
    have e9 : M.step s d[i] = M.next[s.toNat][M.cls d[i]] := by
      unfold Au.step
      rw [if_neg h0, List.getElem?_eq_getElem hlt]
      simp only
      rw [List.getElem?_eq_getElem hlk]; rfl
    rw [← hrun, e9]; rfl
  · have hend : i = d.length := by omega
    subst hend
    rw [List.take_length]
    generalize M.run 0 d = s
    refine cw_exit ?_; refine cw_seq ?_; refine cw_region ?_; refine ol_ev (ev_move rfl) rfl ?_; refine ol_ev (ev_ge rfl rfl) rfl ?_; refine ol_ev (ev_move rfl) rfl ?_
    by_cases h0 : 0 ≤ s
    · rw [decide_eq_true h0]
      refine ol_on rfl rfl rfl ?_; refine ol_ev (ev_move rfl) rfl ?_; refine ol_on rfl rfl rfl ?_; refine ol_ev (ev_fld rfl) rfl ?_; refine ol_on rfl rfl rfl ?_; refine ol_ev (ev_load rfl m0 rfl) rfl ?_; refine ol_on rfl rfl rfl ?_; refine ol_ev (ev_len_s rfl) rfl ?_; refine ol_on rfl rfl rfl ?_; refine ol_ev (ev_lt rfl rfl) rfl ?_; refine ol_ev (ev_pick_t rfl rfl) rfl ?_; refine ol_ev (ev_move rfl) rfl ?_
      by_cases h1 : s < ((M.final.length : Nat) : Int)
      · have hlt : s.toNat < M.final.length := by omega
        obtain ⟨b, off, e1, hcell⟩ := hf s.toNat _ (List.getElem?_eq_getElem hlt)
        subst e1
        rw [decide_eq_true h1]
        refine ol_on rfl rfl rfl ?_; refine ol_ev (ev_fld rfl) rfl ?_; refine ol_on rfl rfl rfl ?_; refine ol_ev (ev_load rfl m0 rfl) rfl ?_; refine ol_on rfl rfl rfl ?_; refine ol_ev (ev_move rfl) rfl ?_; refine ol_on rfl rfl rfl ?_
        refine ol_ev (ev_idx1 rfl rfl (by omega) (by omega)) rfl ?_
        refine ol_on rfl rfl rfl ?_
        refine ol_ev (ev_loadW rfl hcell) rfl ?_
        refine ol_ev (ev_pick_t rfl rfl) rfl ?_; refine ol_ev (ev_assign rfl) rfl ?_; refine ol_nil ?_; refine cw_ret ?_
        refine ⟨_, res1 rfl rfl, ?_⟩
        unfold Au.acc
        rw [if_neg (by omega), List.getElem?_eq_getElem hlt]; rfl
      · rw [decide_eq_false h1]
        (iterate 5 (refine ol_off rfl rfl rfl rfl rfl ?_)); refine ol_ev (ev_pick_f rfl rfl) rfl ?_; refine ol_ev (ev_assign rfl) rfl ?_; refine ol_nil ?_; refine cw_ret ?_
        refine ⟨_, res1 rfl rfl, ?_⟩
        unfold Au.acc
        rw [if_neg (by omega), List.getElem?_eq_none (by omega)]; rfl
    · rw [decide_eq_false h0]
      (iterate 5 (refine ol_off rfl rfl rfl rfl rfl ?_)); refine ol_ev (ev_pick_f rfl rfl) rfl ?_; refine ol_ev (ev_move rfl) rfl ?_; (iterate 5 (refine ol_off rfl rfl rfl rfl rfl ?_)); refine ol_ev (ev_pick_f rfl rfl) rfl ?_; refine ol_ev (ev_assign rfl) rfl ?_; refine ol_nil ?_; refine cw_ret ?_
      refine ⟨_, res1 rfl rfl, ?_⟩
      unfold Au.acc; rw [if_pos (by omega)]

theorem specLongest_ct (hM : Mach W nv fv M) (d : List UInt8) (hl : d.length ≤ 1099511627776) : Ct Tryd.prog W 30 #[.agg #[.int .i64 M.classes, nv, fv], str d] [] (fun v _ => v = .int .i64 (M.long d : Int)) := by
  refine ct_of_cw (vs := [_, _]) Tryd.func30 rfl rfl fun w1 => ?_
  refine cw_seq ?_; refine cw_region ?_
  refine ol_box rfl rfl fun b2 => ?_
  refine ol_ev (ev_assign rfl) rfl ?_; refine ol_nil ?_; refine cw_seq ?_; refine cw_seq ?_; refine cw_region ?_; refine ol_ev (ev_move rfl) rfl ?_; refine ol_ev (ev_len_str rfl) rfl ?_; refine ol_ev (ev_assign rfl) rfl ?_; refine ol_nil ?_; refine cw_block ?_
  refine cw_loop (σ := Nat) (fun i => [(1, str d), (2, .pointer (some ⟨b2, 0, none⟩)), (5, .int .i64 (i : Int))]) (fun _ => [(b2, (⟨[.int .i64 M.classes, nv, fv], 54, (0, 0)⟩ : HO))])
    (fun i => i ≤ d.length ∧ M.long d = M.best d i) (fun i => i) d.length ⟨Nat.le_refl _, rfl⟩ (fun a ha => ha.weak ⟨rfl, rfl, rfl, trivial⟩) rfl ?_
  rintro i ⟨hi, hbest⟩
  refine cw_seq ?_; refine cw_seq ?_; refine cw_region ?_; refine ol_ev (ev_move rfl) rfl ?_; refine ol_ev (ev_gt rfl rfl) rfl ?_; refine ol_nil ?_
  refine cw_ifd rfl (fun h2 => ?_) (fun h2 => ?_)
  · obtain ⟨k, rfl⟩ : ∃ k, i = k + 1 := ⟨i - 1, by omega⟩
    unfold Au.best at hbest
    refine cw_skip ?_; refine cw_seq ?_; refine cw_block ?_; refine cw_seq ?_
    refine cw_mid 4 mixed (by kernel_rfl) rfl ?_
    refine sl_ev (ev_loadS (cs := [.int .i64 M.classes, nv, fv]) rfl rfl m0 rfl) rfl ?_
    refine sl_ev (ev_move rfl) rfl ?_; refine sl_ev (ev_move rfl) rfl ?_
    refine sl_ev (ev_slice_str_to rfl rfl (by omega) (by omega)) rfl ?_
    rw [show (((k + 1 : Nat) : Int)).toNat = k + 1 by omega]
    refine sl_nil ?_
    refine ol_call2 (G := []) (cap := []) rfl rfl rfl rfl (specAccepts_ct hM (d.take (k + 1)) (by simp; omega)) (List.Perm.refl _) ?_
    rintro v G' rfl
    refine OL.drop ?_
    refine ol_nil ?_
    refine sl_nil ?_
    cases hacc : M.acc (M.run 0 (d.take (k + 1))) with
    | true =>
      rw [if_pos hacc] at hbest
      refine cw_if_t rfl ?_; refine cw_seq ?_; refine cw_region ?_; refine ol_ev (ev_move rfl) rfl ?_; refine ol_ev (ev_assign rfl) rfl ?_; refine ol_nil ?_; refine cw_ret ?_
      refine ⟨_, res1 rfl rfl, ?_⟩
      rw [hbest]
    | false =>
      rw [if_neg (by rw [hacc]; simp)] at hbest
      refine cw_if_f rfl ?_; refine cw_skip ?_; refine cw_region ?_; refine ol_ev (ev_move rfl) rfl ?_; (refine ol_ev (ev_sub rfl rfl ?_) rfl ?_; (constructor <;> omega)); refine ol_ev (ev_assign rfl) rfl ?_; refine ol_nil ?_
      refine ⟨k, ⟨by omega, hbest⟩, ⟨rfl, rfl, ?_, trivial⟩, rfl, Nat.lt_succ_self k⟩
      show some (Value.int .i64 (((k + 1 : Nat) : Int) - 1)) = _
      rw [show ((k + 1 : Nat) : Int) - 1 = (k : Int) by omega]
  · have hend : i = 0 := by omega
    subst hend
    refine cw_exit ?_; refine cw_seq ?_; refine cw_region ?_; refine ol_ev (ev_assign rfl) rfl ?_; refine ol_nil ?_; refine cw_ret ?_
    refine ⟨_, res1 rfl rfl, ?_⟩
    rw [hbest]; rfl

theorem specMunch_ct (hM : Mach W nv fv M) (text : List UInt8) (ts : List (List UInt8)) (e : Option Nat) (hf : MunchOf M text ts e) (hl : text.length ≤ 1099511627776) :
    Ct Tryd.prog W 26 #[str text, .agg #[.int .i64 M.classes, nv, fv]] [] (fun v H' => ∃ u, v = .agg #[u, .int .i64 (codeOf e)] ∧ StrsAt H' u ts) := by
  refine ct_of_cw (vs := [_, _]) Tryd.func26 rfl rfl fun w1 => ?_
  refine cw_seq ?_; refine cw_region ?_
  refine ol_box rfl rfl fun b9 => ?_
  refine ol_alloc rfl fun r0 => ?_
  refine ol_nil ?_; refine cw_seq ?_; refine cw_region ?_
  refine ol_slice0 rfl fun ob => ?_
  refine ol_ev (ev_build1 rfl rfl) rfl ?_
  refine ol_alloc rfl fun b3 => ?_
  refine ol_storeS (o := ⟨[.slice none 0 0, .int .i64 0], 30, (0, 0)⟩) (cs := [.slice (some ⟨ob, 0, none⟩) 0 0, .int .i64 0]) rfl rfl rfl (by simp [Value.oneCell']) u0 rfl rfl ?_
  refine ol_nil ?_; refine cw_seq ?_; refine cw_seq ?_; refine cw_region ?_; refine ol_ev (ev_assign rfl) rfl ?_; refine ol_nil ?_; refine cw_block ?_
  refine cw_loop (σ := Nat × Nat × List Value × List (List UInt8) × List (List UInt8)) (fun g => [(0, str text), (3, .pointer (some ⟨b9, 0, none⟩)), (4, .pointer (some ⟨r0, 0, none⟩)), (5, .pointer (some ⟨b3, 0, none⟩)), (6, .int .i64 (g.1 : Int))])
    (fun g => [(b3, ⟨[.slice (some ⟨g.2.1, 0, none⟩) g.2.2.2.1.length (g.2.2.2.1.length + g.2.2.1.length), .int .i64 0], 30, (0, 0)⟩), (g.2.1, strO g.2.2.2.1 g.2.2.1), (r0, ⟨[.slice none 0 0, .int .i64 0], 30, (0, 0)⟩), (b9, ⟨[.int .i64 M.classes, nv, fv], 54, (0, 0)⟩)])
    (fun g => g.1 ≤ text.length ∧ g.2.2.2.1 ++ g.2.2.2.2 = ts ∧ g.2.2.2.1.length ≤ g.1 ∧ MunchOf M (text.drop g.1) g.2.2.2.2 e) (fun g => text.length - g.1) (0, ob, [], [], ts) ⟨Nat.zero_le _, rfl, by simp, by simpa using hf⟩ (fun a ha => ha.weak ⟨rfl, rfl, rfl, rfl, rfl, trivial⟩) rfl ?_
  rintro ⟨i, ob, sp, ds, ls⟩ ⟨hi, hts, hdl, hf⟩
  simp only at hi hts hdl hf ⊢
  refine cw_seq ?_; refine cw_seq ?_; refine cw_region ?_; refine ol_ev (ev_move rfl) rfl ?_; refine ol_ev (ev_move rfl) rfl ?_; refine ol_ev (ev_len_str rfl) rfl ?_; refine ol_ev (ev_lt rfl rfl) rfl ?_; refine ol_nil ?_
  refine cw_ifd rfl (fun h2 => ?_) (fun h2 => ?_)
  · have hx : i < text.length := by omega
    have hdrop : (text.drop i).length = text.length - i := by simp
    have hne : text.drop i ≠ [] := fun h => by rw [h] at hdrop; simp at hdrop; omega
    have hll := M.long_le (text.drop i)
    refine cw_skip ?_; refine cw_block ?_; refine cw_seq ?_
    refine cw_mid 4 mixed (by kernel_rfl) rfl ?_
    refine sl_ev (ev_loadS (cs := [.int .i64 M.classes, nv, fv]) rfl rfl m3 rfl) rfl ?_
    refine sl_ev (ev_move rfl) rfl ?_; refine sl_ev (ev_move rfl) rfl ?_
    refine sl_ev (ev_slice_str_from rfl rfl (by omega) (by omega)) rfl ?_
    rw [show (((i : Nat) : Int)).toNat = i by omega]
    refine sl_nil ?_
    refine ol_call2 (G := []) (cap := []) rfl rfl rfl rfl (specLongest_ct hM (text.drop i) (by omega)) (List.Perm.refl _) ?_
    rintro v G' rfl
    refine OL.drop ?_
    refine ol_nil ?_
    refine sl_ev (ev_assign rfl) rfl ?_; refine sl_nil ?_
    refine cw_seq ?_; refine cw_seq ?_; refine cw_region ?_; refine ol_ev (ev_move rfl) rfl ?_; refine ol_ev (ev_eq rfl rfl) rfl ?_; refine ol_nil ?_
    refine cw_ifd rfl (fun h3 => ?_) (fun h3 => ?_)
    · have hend : ls = [] ∧ e = some 7 := by
        generalize hr : text.drop i = r at hf h3 hne
        cases hf with
        | nil => exact absurd rfl hne
        | bad => exact ⟨rfl, rfl⟩
        | cons a1 _ => omega
      obtain ⟨rfl, rfl⟩ := hend
      rw [List.append_nil] at hts
      subst hts
      refine cw_seq ?_; refine cw_region ?_; refine ol_ev (ev_fld rfl) rfl ?_; refine ol_store rfl rfl rfl u0 rfl rfl ?_; refine ol_nil ?_; refine cw_seq ?_; refine cw_region ?_
      refine ol_ev (ev_loadS (cs := [.slice (some ⟨ob, 0, none⟩) ds.length (ds.length + sp.length), .int .i64 4]) rfl rfl m0 rfl) rfl ?_
      refine ol_storeS (o := ⟨[.slice none 0 0, .int .i64 0], 30, (0, 0)⟩) (cs := [.slice (some ⟨ob, 0, none⟩) ds.length (ds.length + sp.length), .int .i64 4]) rfl rfl rfl (by simp [Value.oneCell']) u2 rfl rfl ?_
      refine ol_nil ?_; refine cw_ret ?_
      exact ⟨_, resC (cs := [.slice (some ⟨ob, 0, none⟩) ds.length (ds.length + sp.length), .int .i64 4]) rfl rfl rfl m2 rfl, _, rfl, ob, ds.length + sp.length, sp, rfl, m1, Nat.le_add_right _ _⟩
    · have hcons : ∃ r, ls = (text.drop i).take (M.long (text.drop i)) :: r ∧ MunchOf M (text.drop (i + M.long (text.drop i))) r e := by
        rw [← List.drop_drop]
        generalize text.drop i = r at hf h3 hne
        cases hf with
        | nil => exact absurd rfl hne
        | bad _ a2 => omega
        | cons a1 a2 => exact ⟨_, rfl, a2⟩
      obtain ⟨r, rfl, hrest⟩ := hcons
      generalize hln : M.long (text.drop i) = ln at h3 hll hrest
      have hsub : sub text (((i : Nat) : Int)).toNat (((i : Nat) : Int) + (ln : Int)).toNat = (text.drop i).take ln := by
        rw [show (((i : Nat) : Int)).toNat = i by omega, show (((i : Nat) : Int) + (ln : Int)).toNat = i + ln by omega]
        unfold sub
        rw [Nat.add_sub_cancel_left]
      rw [hln] at hts
      generalize htt : (text.drop i).take ln = t at hsub hts
      refine cw_skip ?_; refine cw_seq ?_
      refine cw_floatx [(0, false), (1, false), (2, false), (3, false), (4, false), (5, false), (6, false), (7, false), (8, true), (9, true), (10, false)] 11 [(b3, ⟨[.slice (some ⟨ob, 0, none⟩) ds.length (ds.length + sp.length), .int .i64 0], 30, (0, 0)⟩)] mixed (by kernel_rfl) rfl (List.Sublist.cons_cons _ (List.nil_sublist _)) (fun _ _ _ h => h) (fun _ _ h => h) ?_
      refine fl_ev rfl (ev_fld rfl) rfl ?_; refine fl_ev rfl (ev_load rfl m0 rfl) rfl ?_; (iterate 4 (refine fl_ev rfl (ev_move rfl) rfl ?_)); (refine fl_ev rfl (ev_add rfl rfl ?_) rfl ?_; (constructor <;> omega))
      refine fl_ev rfl (ev_slice_str rfl rfl rfl (by omega) (by omega) (by omega)) rfl ?_
      rw [hsub]
      refine fl_x rfl ?_
      refine ol_slice1 rfl rfl rfl rfl fun b1 => ?_
      refine ol_nil ⟨sub_cons m1 sub_nil, ?_⟩
      refine fl_x rfl ?_
      refine ol_append (xs := ds.map str) (sp := sp) (ys := [str t]) rfl rfl (fun _ _ => r2) m0 (by simp) (by simp) rfl rfl (by intro u hu; simp only [List.mem_singleton] at hu; subst hu; rfl) rfl (by omega) (by omega) rfl ?_
      intro b' sp'
      refine ol_nil ⟨sub_cons m1 sub_nil, ?_⟩
      refine fl_ev rfl (ev_fld rfl) rfl ?_
      refine fl_nil ?_
      refine OL.less (List.sublist_cons_self _ _) ?_
      refine ol_store rfl rfl rfl u0 rfl rfl ?_; refine ol_nil ?_; refine cw_region ?_; refine ol_ev (ev_move rfl) rfl ?_; refine ol_ev (ev_move rfl) rfl ?_; (refine ol_ev (ev_add rfl rfl ?_) rfl ?_; (constructor <;> omega)); refine ol_ev (ev_assign rfl) rfl ?_; refine ol_nil ?_
      have htl : t.length = ln := by rw [← htt, List.length_take]; omega
      refine ⟨(i + ln, b', sp', ds ++ [t], r), ⟨by show i + ln ≤ text.length; omega, by simpa using hts, by simp; omega, hrest⟩, ⟨rfl, rfl, rfl, rfl, rfl, trivial⟩, ?_, by show text.length - (i + ln) < text.length - i; omega⟩
      have e1 : (ds.map str ++ [str t]).length = ds.length + 1 := by simp
      have e2 : ds.map str ++ [str t] = (ds ++ [t]).map str := by simp
      have e3 : (ds ++ [t]).length = ds.length + 1 := by simp
      simp only [e1, e3]
      rw [e2]; rfl
  · have hend : text.drop i = [] := List.drop_of_length_le (by omega)
    rw [hend] at hf
    have hls : ls = [] ∧ e = none := by
      cases hf with
      | nil => exact ⟨rfl, rfl⟩
      | bad h0 => exact absurd rfl h0
      | cons h1 => simp [Au.long, Au.best] at h1
    obtain ⟨rfl, rfl⟩ := hls
    rw [List.append_nil] at hts
    subst hts
    refine cw_exit ?_; refine cw_seq ?_; refine cw_region ?_
    refine ol_ev (ev_loadS (cs := [.slice (some ⟨ob, 0, none⟩) ds.length (ds.length + sp.length), .int .i64 0]) rfl rfl m0 rfl) rfl ?_
    refine ol_storeS (o := ⟨[.slice none 0 0, .int .i64 0], 30, (0, 0)⟩) (cs := [.slice (some ⟨ob, 0, none⟩) ds.length (ds.length + sp.length), .int .i64 0]) rfl rfl rfl (by simp [Value.oneCell']) u2 rfl rfl ?_
    refine ol_nil ?_; refine cw_ret ?_
    exact ⟨_, resC (cs := [.slice (some ⟨ob, 0, none⟩) ds.length (ds.length + sp.length), .int .i64 0]) rfl rfl rfl m2 rfl, _, rfl, ob, ds.length + sp.length, sp, rfl, m1, Nat.le_add_right _ _⟩
end
end Go.HE
