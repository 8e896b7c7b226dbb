/- Scan, what it does where the buffer is full. Conditions: the errors are as start-up lays them. -/
import Derived.Test.YtjalppojdomcoaaDoorScan2
set_option maxRecDepth 100000
set_option maxHeartbeats 4000000
namespace Go.HE
open Go.RowKit Go.Proofs

section
variable {W : World} {E : Nat → Addr} {σ : Type} {sv : Value} {step : σ → List UInt8 → Bool → Ans σ} {I : σ → Heap → Prop}

/-- Behind the shift (m is the shifted state): the buffer has room, or it is too long, or a greater one is made. -/
theorem scan_D (hE : Errs W E) (hmore : ∀ s T x, I s T → I s (x :: T)) (ps : List Int) (go : M σ → End σ → Prop) (m : M σ) (e : End σ) (sb rb bb : Nat) (bs : List UInt8) (tok : Value) (T : Heap) (w1 : World) (D : List Nat) (inv : Inv W ps I m bb bs tok T)
    (he : m.err = none)
    (hrest : if m.start + m.data.length = m.blen then (if m.mx ≤ (m.blen : Int) then e.b = false ∧ e.dn = false ∧ e.m = { m with err := setE none 2 } else (newLen m ≤ 140737488355328 ∧ go (readM ps (growM m)) e)) else go (readM ps m) e)
    (hs0 : m.start + m.data.length = m.blen → m.start = 0)
    (Q : Exit → Env → Heap → Prop) (hret : ∀ l H, (∃ v, look l 2 = some v ∧ Left' W E ps I sb rb sv e v H) → Q .ret l H) :
    CW Tryd.prog ⟨W, w1, D, Tryd.f34.ntmps⟩ (nv (bodyOf Tryd.f34) [false, true, true, true, false, false, false, true, true, true]) [(0, .pointer (some ⟨sb, 0, none⟩))]
      (scanH E sb rb sv m bb bs tok T false)
      (thenQ (fun l' H' => SubE l' [(0, .pointer (some ⟨sb, 0, none⟩))] ∧ ∃ m3 bb3 bs3 T3, H' = scanH E sb rb sv m3 bb3 bs3 tok T3 false ∧ Inv W ps I m3 bb3 bs3 tok T3 ∧ m3.err = none ∧ m3.start + m3.data.length < m3.blen ∧ go (readM ps m3) e) Q) := by
  obtain ⟨s, data, start, blen, mx, rd, err, emp⟩ := m
  simp only at he hrest hs0
  subst he
  have hfit : start + data.length ≤ blen := inv.ok.fit
  have hbig : blen ≤ 140737488355328 := inv.ok.big
  have hmx : mx ≤ 9223372036854775807 := inv.ok.mx
  have hlen : bs.length = blen := inv.len
  have hdat : (bs.drop start).take data.length = data := inv.dat
  show CW _ _ _ _ ((sb, scL E rb sv mx tok (.slice (some ⟨bb, 0, none⟩) blen blen) start (start + data.length) none emp true false) :: (rb, rd.ho) :: (bb, bufO bs) :: T) _
  refine cw_seq (cw_still mixed (by kernel_rfl) ?_)
  refine sl_ev (ev_move rfl) rfl ?_; refine sl_ev (ev_nilP rfl) rfl ?_; refine sl_ev (ev_fld rfl) rfl ?_; refine sl_ev (ev_load rfl m0 rfl) rfl ?_; refine sl_ev (ev_move rfl) rfl ?_; refine sl_ev (ev_nilP rfl) rfl ?_; refine sl_ev (ev_fld rfl) rfl ?_; refine sl_ev (ev_load rfl m0 rfl) rfl ?_; refine sl_ev (ev_len_s rfl) rfl ?_; refine sl_ev (ev_eq rfl rfl) rfl ?_; refine sl_nil ?_
  refine cw_ifd rfl (fun hc => ?_) (fun hc => ?_)
  · have hc' : start + data.length = blen := by omega
    rw [if_pos hc'] at hrest
    have hst := hs0 hc'
    subst hst
    refine cw_cut (fun l' H' => SubE l' [(0, .pointer (some ⟨sb, 0, none⟩))] ∧ ¬ mx ≤ (blen : Int) ∧ H' = (sb, scL E rb sv mx tok (.slice (some ⟨bb, 0, none⟩) blen blen) 0 (0 + data.length) none emp true false) :: (rb, rd.ho) :: (bb, bufO bs) :: T) ?_ ?_
    · refine cw_seq (cw_still mixed (by kernel_rfl) ?_)
      refine sl_ev (ev_move rfl) rfl ?_; refine sl_ev (ev_nilP rfl) rfl ?_; refine sl_ev (ev_fld rfl) rfl ?_; refine sl_ev (ev_load rfl m0 rfl) rfl ?_; refine sl_ev (ev_len_s rfl) rfl ?_; refine sl_ev (ev_move rfl) rfl ?_; refine sl_ev (ev_nilP rfl) rfl ?_; refine sl_ev (ev_fld rfl) rfl ?_; refine sl_ev (ev_load rfl m0 rfl) rfl ?_; refine sl_ev (ev_ge rfl rfl) rfl ?_; refine sl_ev (ev_move rfl) rfl ?_
      by_cases h1 : mx ≤ (blen : Int)
      · rw [decide_eq_true h1]
        rw [if_pos h1] at hrest
        obtain ⟨hb, hdn, hm⟩ := hrest
        (iterate 6 (refine sl_off rfl rfl rfl rfl rfl ?_)); refine sl_ev (ev_pick_t rfl rfl) rfl ?_; refine sl_nil ?_
        refine cw_if_t rfl ?_; refine cw_seq ?_; refine cw_region ?_; refine ol_ev (ev_move rfl) rfl ?_
        refine ol_ev (ev_loadW rfl hE.c2) rfl ?_
        have hse := setErr_ct hE ⟨rb, sv, mx, tok, .slice (some ⟨bb, 0, none⟩) blen blen, 0, 0 + data.length, none, emp, true, false⟩ sb 2 (fun k hk => by cases hk)
        refine ol_call2 (R := (rb, rd.ho) :: (bb, bufO bs) :: T) (cap := []) rfl rfl rfl rfl hse (List.Perm.refl _) ?_
        rintro v G' rfl
        refine ol_nil ?_; refine cw_seq ?_; refine cw_region ?_; refine ol_ev (ev_assign rfl) rfl ?_; refine ol_nil ?_; refine cw_ret ?_
        refine hret _ _ ⟨_, rfl, ?_, bb, bs, tok, T, ?_, ?_, ?_⟩
        · rw [hb]
        · rw [hm, hdn]; rfl
        · rw [hm]
          exact ⟨⟨hfit, hbig, inv.ok.rd, fun k hk => by cases hk; omega, inv.ok.emp, inv.ok.mx⟩, hlen, hdat, inv.inv, inv.tok⟩
        · rw [hb]; intro h; cases h
      · rw [decide_eq_false h1]
        refine sl_on rfl rfl rfl ?_; refine sl_ev (ev_move rfl) rfl ?_; refine sl_on rfl rfl rfl ?_; refine sl_ev (ev_nilP rfl) rfl ?_; refine sl_on rfl rfl rfl ?_; refine sl_ev (ev_fld rfl) rfl ?_; refine sl_on rfl rfl rfl ?_; refine sl_ev (ev_load rfl m0 rfl) rfl ?_; refine sl_on rfl rfl rfl ?_; refine sl_ev (ev_len_s rfl) rfl ?_; refine sl_on rfl rfl rfl ?_; refine sl_ev (ev_gt rfl rfl) rfl ?_; refine sl_ev (ev_pick_f rfl rfl) rfl ?_; refine sl_nil ?_
        by_cases h2 : (4611686018427387903 : Int) < (blen : Int)
        · omega
        · rw [decide_eq_false h2]
          skip
          refine cw_if_f rfl ?_; refine cw_skip ?_
          exact ⟨⟨rfl, trivial⟩, h1, rfl⟩
    rintro l' H' ⟨hl, h1, rfl⟩
    rw [if_neg h1] at hrest
    refine CW.weak hl ?_
    clear hl
    have hn0 : ((newLen (⟨s, data, 0, blen, mx, rd, none, emp⟩ : M σ) : Nat) : Int) = min ((if blen * 2 = 0 then 4096 else blen * 2 : Nat) : Int) mx := by
      unfold newLen
      simp only
      have : 0 ≤ min ((if blen * 2 = 0 then 4096 else blen * 2 : Nat) : Int) mx := by split <;> omega
      omega
    have hn1 : blen < newLen (⟨s, data, 0, blen, mx, rd, none, emp⟩ : M σ) := by
      split at hn0 <;> omega
    have hgo := hrest.2
    have hnb := hrest.1
    have hgr : growM (⟨s, data, 0, blen, mx, rd, none, emp⟩ : M σ) = ⟨s, data, 0, newLen (⟨s, data, 0, blen, mx, rd, none, emp⟩ : M σ), mx, rd, none, emp⟩ := rfl
    rw [hgr] at hgo
    generalize newLen (⟨s, data, 0, blen, mx, rd, none, emp⟩ : M σ) = nl at *
    clear hrest hgr
    refine cw_cut (fun l' H' => SubE l' [(0, .pointer (some ⟨sb, 0, none⟩)), (6, .int .i64 ((blen * 2 : Nat) : Int))] ∧ H' = (sb, scL E rb sv mx tok (.slice (some ⟨bb, 0, none⟩) blen blen) 0 (0 + data.length) none emp true false) :: (rb, rd.ho) :: (bb, bufO bs) :: T) ?_ ?_
    · refine cw_region ?_; refine ol_ev (ev_move rfl) rfl ?_; refine ol_ev (ev_nilP rfl) rfl ?_; refine ol_ev (ev_fld rfl) rfl ?_; refine ol_ev (ev_load rfl m0 rfl) rfl ?_; refine ol_ev (ev_len_s rfl) rfl ?_
      refine ol_ev (ev_mul rfl rfl (by constructor <;> omega)) rfl ?_
      refine ol_ev (ev_assign rfl) rfl ?_; refine ol_nil ?_
      exact ⟨⟨rfl, rfl, trivial⟩, rfl⟩
    rintro l' H' ⟨hl, rfl⟩
    refine CW.weak hl ?_
    clear hl
    refine cw_cut (fun l' H' => SubE l' [(0, .pointer (some ⟨sb, 0, none⟩)), (6, .int .i64 ((if blen * 2 = 0 then 4096 else blen * 2 : Nat) : Int))] ∧ H' = (sb, scL E rb sv mx tok (.slice (some ⟨bb, 0, none⟩) blen blen) 0 (0 + data.length) none emp true false) :: (rb, rd.ho) :: (bb, bufO bs) :: T) ?_ ?_
    · refine cw_seq ?_; refine cw_region ?_; refine ol_ev (ev_move rfl) rfl ?_; refine ol_ev (ev_eq rfl rfl) rfl ?_; refine ol_nil ?_
      refine cw_ifd rfl (fun h2 => ?_) (fun h2 => ?_)
      · refine cw_region ?_; refine ol_ev (ev_assign rfl) rfl ?_; refine ol_nil ?_
        refine ⟨⟨rfl, ?_, trivial⟩, rfl⟩
        rw [if_pos (by omega)]; rfl
      · refine cw_skip ?_
        refine ⟨⟨rfl, ?_, trivial⟩, rfl⟩
        rw [if_neg (by omega)]; rfl
    rintro l' H' ⟨hl, rfl⟩
    refine CW.weak hl ?_
    clear hl
    generalize (if blen * 2 = 0 then 4096 else blen * 2 : Nat) = nw at *
    refine cw_seq ?_; refine cw_region ?_; refine ol_ev (ev_move rfl) rfl ?_; refine ol_ev (ev_move rfl) rfl ?_; refine ol_ev (ev_nilP rfl) rfl ?_; refine ol_ev (ev_fld rfl) rfl ?_; refine ol_ev (ev_load rfl m0 rfl) rfl ?_; refine ol_ev (ev_min rfl rfl) rfl ?_; refine ol_ev (ev_assign rfl) rfl ?_; refine ol_nil ?_; refine cw_seq ?_; refine cw_region ?_; refine ol_ev (ev_move rfl) rfl ?_
    rw [← hn0]
    refine ol_make rfl rfl (by omega) (by omega) (by omega) (by omega) rfl rfl ?_
    intro nb
    rw [Int.toNat_natCast]
    refine ol_ev (ev_assign rfl) rfl ?_; refine ol_nil ?_; refine cw_seq ?_
    refine cw_tail 14 mixed (by kernel_rfl) ?_
    refine sl_ev (ev_move rfl) rfl ?_; refine sl_ev (ev_move rfl) rfl ?_; refine sl_ev (ev_nilP rfl) rfl ?_; refine sl_ev (ev_fld rfl) rfl ?_; refine sl_ev (ev_load rfl m1 rfl) rfl ?_; refine sl_ev (ev_move rfl) rfl ?_; refine sl_ev (ev_nilP rfl) rfl ?_; refine sl_ev (ev_fld rfl) rfl ?_; refine sl_ev (ev_load rfl m1 rfl) rfl ?_; refine sl_ev (ev_move rfl) rfl ?_; refine sl_ev (ev_nilP rfl) rfl ?_; refine sl_ev (ev_fld rfl) rfl ?_; refine sl_ev (ev_load rfl m1 rfl) rfl ?_
    refine sl_ev (ev_slice rfl rfl rfl (by omega) (by omega) (by omega)) rfl (sl_nil ?_)
    have e1 : ((0 + data.length : Nat) : Int).toNat - ((0 : Nat) : Int).toNat = data.length := by omega
    rw [e1]
    refine ol_copy_cells (n := data.length) (vs := bcells data) (o2 := bufO bs) rfl rfl (by omega) rfl m3 (by simp) ?_ (bcells_one _) (by simp; omega) u0 rfl ?_
    · rw [bcells_length]
      split <;> rename_i hss
      · have : data.length = 0 := by simp at hss; omega
        rw [List.eq_nil_of_length_eq_zero this]; simp [bcells]
      · have h3 := hdat
        simp only [List.drop_zero] at h3
        simp only [bufO]
        show (bcells bs).take data.length = bcells data
        rw [bcells_take, h3]
    have hz : ∀ k, List.replicate k (Value.int .u8 0) = bcells (List.replicate k 0) := fun k => by simp [bcells, bv]
    have e2 : (⟨splice (List.replicate nl (Value.int .u8 0)) 0 (bcells data), 5, (0, 0)⟩ : HO) = bufO (data ++ List.replicate (nl - data.length) 0) := by
      simp [bufO, splice, bcells_append, ← hz]
    rw [e2]
    refine ol_nil ?_
    refine CW.weak (r := [(0, .pointer (some ⟨sb, 0, none⟩)), (7, .slice (some ⟨nb, 0, none⟩) nl nl)]) ⟨rfl, rfl, trivial⟩ ?_
    refine CW.perm (K := (sb, scL E rb sv mx tok (.slice (some ⟨bb, 0, none⟩) blen blen) 0 (0 + data.length) none emp true false) :: (rb, rd.ho) :: (nb, bufO (data ++ List.replicate (nl - data.length) 0)) :: (bb, bufO bs) :: T) ((List.Perm.swap _ _ _).trans ((List.Perm.swap _ _ _).cons _)) ?_
    refine cw_seq ?_; refine cw_region ?_; refine ol_ev (ev_move rfl) rfl ?_; refine ol_ev (ev_move rfl) rfl ?_; refine ol_ev (ev_nilP rfl) rfl ?_; refine ol_ev (ev_fld rfl) rfl ?_; refine ol_store rfl rfl rfl u0 rfl rfl ?_; refine ol_nil ?_; refine cw_seq ?_
    refine cw_tail 11 mixed (by kernel_rfl) ?_
    refine sl_ev (ev_move rfl) rfl ?_; refine sl_ev (ev_nilP rfl) rfl ?_; refine sl_ev (ev_fld rfl) rfl ?_; refine sl_ev (ev_load rfl m0 rfl) rfl ?_; refine sl_ev (ev_move rfl) rfl ?_; refine sl_ev (ev_nilP rfl) rfl ?_; refine sl_ev (ev_fld rfl) rfl ?_; refine sl_ev (ev_load rfl m0 rfl) rfl ?_; (refine sl_ev (ev_sub rfl rfl ?_) rfl ?_; (constructor <;> omega)); refine sl_ev (ev_nilP rfl) rfl ?_; refine sl_ev (ev_fld rfl) rfl ?_; refine sl_nil ?_
    refine ol_store rfl rfl rfl u0 rfl rfl ?_; refine ol_nil ?_; refine cw_region ?_; refine ol_ev (ev_move rfl) rfl ?_; refine ol_ev (ev_nilP rfl) rfl ?_; refine ol_ev (ev_fld rfl) rfl ?_; refine ol_store rfl rfl rfl u0 rfl rfl ?_; refine ol_nil ?_
    refine ⟨⟨rfl, trivial⟩, ⟨s, data, 0, nl, mx, rd, none, emp⟩, nb, data ++ List.replicate (nl - data.length) 0, (bb, bufO bs) :: T, ?_, ⟨⟨?_, hnb, inv.ok.rd, inv.ok.err, inv.ok.emp, inv.ok.mx⟩, ?_, ?_, hmore _ _ _ inv.inv, ?_⟩, rfl, ?_, hgo⟩
    · have e3 : ((0 + data.length : Nat) : Int) - ((0 : Nat) : Int) = ((0 + data.length : Nat) : Int) := by omega
      rw [e3]; rfl
    · show 0 + data.length ≤ nl; omega
    · show (data ++ List.replicate (nl - data.length) 0).length = nl; simp; omega
    · show ((data ++ List.replicate (nl - data.length) 0).drop 0).take data.length = data; simp
    · rcases inv.tok with h | ⟨t, b, off, cap, o, h1, h2, h3⟩
      · exact .inl h
      · exact .inr ⟨t, b, off, cap, o, h1, List.mem_cons_of_mem _ h2, h3⟩
    · show 0 + data.length < nl; omega
  · rw [if_neg (by omega)] at hrest
    refine cw_skip ?_
    exact ⟨⟨rfl, trivial⟩, _, bb, bs, T, rfl, inv, rfl, by show start + data.length < blen; omega, hrest⟩
end
end Go.HE
