/- Scan, what it does behind the split function's part of a round: it ends, or makes room and reads. Conditions: the errors are as start-up lays them. -/
import Derived.Test.YtjalppojdomcoaaDoorScan1
set_option maxRecDepth 100000
set_option maxHeartbeats 4000000
namespace Go.HE
open Go.RowKit Go.Proofs

section
variable {W : World} {E : Nat → Addr} {σ : Type} {sv : Value} {step : σ → List UInt8 → Bool → Ans σ} {I : σ → Heap → Prop}

theorem TokV.buf {bb : Nat} {bs bs' : List UInt8} {T : Heap} {tv : Value} (h : TokV ((bb, bufO bs) :: T) tv) (hl : bs'.length = bs.length) : TokV ((bb, bufO bs') :: T) tv := by
  rcases h with h | ⟨t, b, off, cap, o, h1, h2, h3, h4⟩
  · exact .inl h
  · rcases List.mem_cons.1 h2 with h2 | h2
    · cases h2
      have hlt : t.length ≤ (bs.drop off).length := by
        have := congrArg List.length h3
        simp [bufO] at this
        simp; omega
      refine .inr ⟨(bs'.drop off).take t.length, bb, off, cap, bufO bs', ?_, List.mem_cons_self, ?_, rfl⟩
      · rw [h1]; congr 1; simp at hlt ⊢; omega
      · have e : ((bs'.drop off).take t.length).length = t.length := by simp at hlt ⊢; omega
        rw [e]; simp only [bufO, bcells_drop, bcells_take]
    · exact .inr ⟨t, b, off, cap, o, h1, List.mem_cons_of_mem _ h2, h3, h4⟩

theorem scan_C (ps : List Int) (m : M σ) (sb rb bb : Nat) (bs : List UInt8) (tok : Value) (T : Heap) (w1 : World) (D : List Nat) (inv : Inv W ps I m bb bs tok T) (Q : Exit → Env → Heap → Prop) :
    CW Tryd.prog ⟨W, w1, D, Tryd.f34.ntmps⟩ (nv (bodyOf Tryd.f34) [false, true, true, false, false, false, true, true, true]) [(0, .pointer (some ⟨sb, 0, none⟩))]
      (scanH E sb rb sv m bb bs tok T false)
      (thenQ (fun l' H' => SubE l' [(0, .pointer (some ⟨sb, 0, none⟩))] ∧ ∃ bs2, H' = scanH E sb rb sv (shiftM m) bb bs2 tok T false ∧ Inv W ps I (shiftM m) bb bs2 tok T) Q) := by
  obtain ⟨s, data, start, blen, mx, rd, err, emp⟩ := m
  have hfit : start + data.length ≤ blen := inv.ok.fit
  have hbig : blen ≤ 140737488355328 := inv.ok.big
  have hlen : bs.length = blen := inv.len
  have hdat : (bs.drop start).take data.length = data := inv.dat
  show CW _ _ _ _ ((sb, scL E rb sv mx tok (.slice (some ⟨bb, 0, none⟩) blen blen) start (start + data.length) err emp true false) :: (rb, rd.ho) :: (bb, bufO bs) :: T) _
  refine cw_cut (fun l' H' => SubE l' [(0, .pointer (some ⟨sb, 0, none⟩)), (153, .bool (decide (0 < start ∧ (start + data.length = blen ∨ blen / 2 < start))))] ∧ H' = (sb, scL E rb sv mx tok (.slice (some ⟨bb, 0, none⟩) blen blen) start (start + data.length) err emp true false) :: (rb, rd.ho) :: (bb, bufO bs) :: T) ?_ ?_
  · refine cw_still mixed (by kernel_rfl) ?_
    refine sl_ev (ev_move rfl) rfl ?_; refine sl_ev (ev_nilP rfl) rfl ?_; refine sl_ev (ev_fld rfl) rfl ?_; refine sl_ev (ev_load rfl m0 rfl) rfl ?_; refine sl_ev (ev_gt rfl rfl) rfl ?_; refine sl_ev (ev_move rfl) rfl ?_
    by_cases h1 : (0 : Int) < (start : Int)
    · rw [decide_eq_true h1]
      refine sl_on rfl rfl rfl ?_; refine sl_ev (ev_move rfl) rfl ?_; refine sl_on rfl rfl rfl ?_; refine sl_ev (ev_nilP rfl) rfl ?_; refine sl_on rfl rfl rfl ?_; refine sl_ev (ev_fld rfl) rfl ?_; refine sl_on rfl rfl rfl ?_; refine sl_ev (ev_load rfl m0 rfl) rfl ?_; refine sl_on rfl rfl rfl ?_; refine sl_ev (ev_move rfl) rfl ?_; refine sl_on rfl rfl rfl ?_; refine sl_ev (ev_nilP rfl) rfl ?_; refine sl_on rfl rfl rfl ?_; refine sl_ev (ev_fld rfl) rfl ?_; refine sl_on rfl rfl rfl ?_; refine sl_ev (ev_load rfl m0 rfl) rfl ?_; refine sl_on rfl rfl rfl ?_; refine sl_ev (ev_len_s rfl) rfl ?_; refine sl_on rfl rfl rfl ?_; refine sl_ev (ev_eq rfl rfl) rfl ?_; refine sl_on rfl rfl rfl ?_; refine sl_ev (ev_move rfl) rfl ?_
      by_cases h2 : ((start + data.length : Nat) : Int) = (blen : Int)
      · rw [decide_eq_true h2]
        (iterate 11 (refine sl_off rfl rfl rfl rfl rfl ?_)); refine sl_on rfl rfl rfl ?_; refine sl_ev (ev_pick_t rfl rfl) rfl ?_; refine sl_ev (ev_pick_t rfl rfl) rfl ?_; refine sl_nil ?_
        refine ⟨⟨rfl, ?_, trivial⟩, rfl⟩
        rw [decide_eq_true ⟨by omega, .inl (by omega)⟩]; rfl
      · rw [decide_eq_false h2]
        refine sl_on rfl rfl rfl ?_; refine sl_ev (ev_move rfl) rfl ?_; refine sl_on rfl rfl rfl ?_; refine sl_ev (ev_nilP rfl) rfl ?_; refine sl_on rfl rfl rfl ?_; refine sl_ev (ev_fld rfl) rfl ?_; refine sl_on rfl rfl rfl ?_; refine sl_ev (ev_load rfl m0 rfl) rfl ?_; refine sl_on rfl rfl rfl ?_; refine sl_ev (ev_move rfl) rfl ?_; refine sl_on rfl rfl rfl ?_; refine sl_ev (ev_nilP rfl) rfl ?_; refine sl_on rfl rfl rfl ?_; refine sl_ev (ev_fld rfl) rfl ?_; refine sl_on rfl rfl rfl ?_; refine sl_ev (ev_load rfl m0 rfl) rfl ?_; refine sl_on rfl rfl rfl ?_; refine sl_ev (ev_len_s rfl) rfl ?_; refine sl_on rfl rfl rfl ?_; (refine sl_ev (ev_quo rfl rfl ?_ ?_ ?_) rfl ?_; omega; omega; (constructor <;> omega)); refine sl_on rfl rfl rfl ?_; refine sl_ev (ev_gt rfl rfl) rfl ?_; refine sl_on rfl rfl rfl ?_; refine sl_ev (ev_pick_f rfl rfl) rfl ?_; refine sl_ev (ev_pick_t rfl rfl) rfl ?_; refine sl_nil ?_
        refine ⟨⟨rfl, ?_, trivial⟩, rfl⟩
        show some (Value.bool (decide _)) = some (.bool (decide _))
        congr 2
        apply decide_eq_decide.2
        constructor
        · intro h; exact ⟨by omega, .inr (by omega)⟩
        · rintro ⟨_, h | h⟩ <;> omega
    · rw [decide_eq_false h1]
      (iterate 11 (refine sl_off rfl rfl rfl rfl rfl ?_)); (iterate 11 (refine sl_offu rfl rfl rfl rfl ?_)); refine sl_off rfl rfl rfl rfl rfl ?_; refine sl_ev (ev_pick_f rfl rfl) rfl ?_; refine sl_nil ?_
      refine ⟨⟨rfl, ?_, trivial⟩, rfl⟩
      rw [decide_eq_false (by rintro ⟨h, _⟩; omega)]; rfl
  rintro l' H' ⟨hl, rfl⟩
  refine CW.weak hl (cw_ifd rfl (fun hc => ?_) (fun hc => ?_))
  · clear hl
    have hs : shiftM (⟨s, data, start, blen, mx, rd, err, emp⟩ : M σ) = ⟨s, data, 0, blen, mx, rd, err, emp⟩ := by unfold shiftM; rw [if_pos hc]
    rw [hs]
    refine cw_seq ?_
    refine cw_tail 17 mixed (by kernel_rfl) ?_
    refine sl_ev (ev_move rfl) rfl ?_; refine sl_ev (ev_nilP rfl) rfl ?_; refine sl_ev (ev_fld rfl) rfl ?_; refine sl_ev (ev_load rfl m0 rfl) rfl ?_; refine sl_ev (ev_move rfl) rfl ?_; refine sl_ev (ev_nilP rfl) rfl ?_; refine sl_ev (ev_fld rfl) rfl ?_; refine sl_ev (ev_load rfl m0 rfl) rfl ?_; refine sl_ev (ev_move rfl) rfl ?_; refine sl_ev (ev_nilP rfl) rfl ?_; refine sl_ev (ev_fld rfl) rfl ?_; refine sl_ev (ev_load rfl m0 rfl) rfl ?_; refine sl_ev (ev_move rfl) rfl ?_; refine sl_ev (ev_nilP rfl) rfl ?_; refine sl_ev (ev_fld rfl) rfl ?_; refine sl_ev (ev_load rfl m0 rfl) rfl ?_
    refine sl_ev (ev_slice rfl rfl rfl (by omega) (by omega) (by omega)) rfl (sl_nil ?_)
    have e1 : ((start + data.length : Nat) : Int).toNat - ((start : Nat) : Int).toNat = data.length := by omega
    rw [e1]
    refine ol_copy_cells (n := data.length) (vs := bcells data) (o2 := bufO bs) rfl rfl (by omega) rfl m2 (by simp) ?_ (bcells_one _) (by simp [bufO]; omega) u2 rfl ?_
    · rw [bcells_length]
      split <;> rename_i hss
      · have : data.length = 0 := by simp at hss; omega
        rw [List.eq_nil_of_length_eq_zero this]; simp [bcells]
      · simp only [bufO, bcells_drop, bcells_take, Nat.zero_add, Int.toNat_natCast, hdat]
    have e2 : (⟨splice (bufO bs).cells 0 (bcells data), (bufO bs).elem, (bufO bs).fz⟩ : HO) = bufO (data ++ bs.drop data.length) := by
      simp [bufO, splice, bcells_append, bcells_drop]
    rw [e2]
    refine ol_nil ?_; refine cw_seq ?_
    refine cw_tail 11 mixed (by kernel_rfl) ?_
    refine sl_ev (ev_move rfl) rfl ?_; refine sl_ev (ev_nilP rfl) rfl ?_; refine sl_ev (ev_fld rfl) rfl ?_; refine sl_ev (ev_load rfl m0 rfl) rfl ?_; refine sl_ev (ev_move rfl) rfl ?_; refine sl_ev (ev_nilP rfl) rfl ?_; refine sl_ev (ev_fld rfl) rfl ?_; refine sl_ev (ev_load rfl m0 rfl) rfl ?_; (refine sl_ev (ev_sub rfl rfl ?_) rfl ?_; (constructor <;> omega)); refine sl_ev (ev_nilP rfl) rfl ?_; refine sl_ev (ev_fld rfl) rfl ?_; refine sl_nil ?_
    refine ol_store rfl rfl rfl u0 rfl rfl ?_; refine ol_nil ?_; refine cw_region ?_; refine ol_ev (ev_move rfl) rfl ?_; refine ol_ev (ev_nilP rfl) rfl ?_; refine ol_ev (ev_fld rfl) rfl ?_; refine ol_store rfl rfl rfl u0 rfl rfl ?_; refine ol_nil ?_
    refine ⟨⟨rfl, trivial⟩, data ++ bs.drop data.length, ?_, ⟨by show 0 + data.length ≤ blen; omega, hbig, inv.ok.rd, inv.ok.err, inv.ok.emp, inv.ok.mx⟩, ?_, ?_, inv.inv, inv.tok.buf ?_⟩
    · have e3 : ((start + data.length : Nat) : Int) - (start : Int) = ((0 + data.length : Nat) : Int) := by omega
      rw [e3]; rfl
    · show (data ++ bs.drop data.length).length = blen; simp; omega
    · show ((data ++ bs.drop data.length).drop 0).take data.length = data; simp
    · simp; omega
  · clear hl
    have hs : shiftM (⟨s, data, start, blen, mx, rd, err, emp⟩ : M σ) = ⟨s, data, start, blen, mx, rd, err, emp⟩ := by unfold shiftM; rw [if_neg hc]
    rw [hs]
    refine cw_skip ?_
    exact ⟨⟨rfl, trivial⟩, bs, rfl, inv⟩
end
end Go.HE
