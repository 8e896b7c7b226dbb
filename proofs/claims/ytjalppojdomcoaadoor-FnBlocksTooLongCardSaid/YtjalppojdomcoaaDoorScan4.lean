/- Scan: its read, and the whole of it, by a contract. Conditions: the errors are as start-up lays them; the split function meets its contract; the model's relation says how the call ends. -/
import Derived.Test.YtjalppojdomcoaaDoorScan3
set_option maxRecDepth 100000
set_option maxHeartbeats 4000000
namespace Go.HE
open Go.RowKit Go.Proofs

theorem run_methodRead (v : Value) (w : World) : (Go.method (Tryd.prog.types.size + Made.depth) 63 v "Read").run Tryd.prog w = .ok (64, v) w := by kernel_rfl
theorem run_Read (v v1 : Value) (w : World) : (callMethod (.iface 63 v) "Read" #[v1]).run Tryd.prog w = .ok (.enter 64 #[v, v1]) w := by
  simp only [callMethod, Sem.run_bind, run_program, Result.andThen_ok, run_methodRead]
  show (callFunc 64 (#[v] ++ #[v1])).run Tryd.prog w = _
  rw [run_callFunc (inferInstance : TFn Tryd.prog 64).h]
  rfl

section
variable {W : World} {E : Nat → Addr} {σ : Type} {sv : Value} {step : σ → List UInt8 → Bool → Ans σ} {I : σ → Heap → Prop}

theorem rdN_pos {r : Rd} {ps : List Int} {len : Nat} (h : 0 < len) (ha : r.at' < r.text.length) : 0 < rdN r ps len := by
  unfold rdN
  split <;> omega
theorem rdN_le (r : Rd) (ps : List Int) (len : Nat) : rdN r ps len ≤ len ∧ rdN r ps len ≤ r.text.length - r.at' := by
  unfold rdN
  split <;> omega
theorem RdOk.next {r : Rd} {ps : List Int} (h : RdOk W r ps) (len : Nat) : RdOk W (rdNext r ps len) ps := by
  have := rdN_le r ps len
  have h1 := h.at_
  have h2 := h.k
  refine ⟨h.pcs, ?_, h.len, ?_, h.plen⟩
  · show r.at' + rdN r ps len ≤ r.text.length; omega
  · show (if r.k < ps.length then r.k + 1 else r.k) ≤ ps.length; split <;> omega

theorem scan_E (hE : Errs W E) (ps : List Int) (m : M σ) (sb rb bb : Nat) (bs : List UInt8) (tok : Value) (T : Heap) (w1 : World) (D : List Nat) (inv : Inv W ps I m bb bs tok T)
    (he : m.err = none) (hroom : m.start + m.data.length < m.blen) (Q : Exit → Env → Heap → Prop) :
    CW Tryd.prog ⟨W, w1, D, Tryd.f34.ntmps⟩ (nv (bodyOf Tryd.f34) [true, true, true, true, false, false, false, true, true, true]) [(0, .pointer (some ⟨sb, 0, none⟩))]
      (scanH E sb rb sv m bb bs tok T false)
      (thenQ (fun l' H' => SubE l' [(0, .pointer (some ⟨sb, 0, none⟩))] ∧ ∃ bs4, H' = scanH E sb rb sv (readM ps m) bb bs4 tok T false ∧ Inv W ps I (readM ps m) bb bs4 tok T) Q) := by
  obtain ⟨s, data, start, blen, mx, rd, err, emp⟩ := m
  simp only at he hroom
  subst he
  have hbig : blen ≤ 140737488355328 := inv.ok.big
  have hlen : bs.length = blen := inv.len
  have hdat : (bs.drop start).take data.length = data := inv.dat
  have hrd : RdOk W rd ps := inv.ok.rd
  show CW _ _ _ _ ((sb, scL E rb sv mx tok (.slice (some ⟨bb, 0, none⟩) blen blen) start (start + data.length) none emp true false) :: (rb, rd.ho) :: (bb, bufO bs) :: T) _
  refine cw_seq (cw_region (ol_ev (ev_assign rfl) rfl (ol_nil (cw_block (cw_loop1 (cw_block (cw_seq ?_)))))))
  refine cw_mid 20 mixed (by kernel_rfl) rfl ?_
  refine sl_ev (ev_move rfl) rfl ?_; refine sl_ev (ev_nilP rfl) rfl ?_; refine sl_ev (ev_fld rfl) rfl ?_; refine sl_ev (ev_load rfl m0 rfl) rfl ?_; refine sl_ev (ev_move rfl) rfl ?_; refine sl_ev (ev_nilP rfl) rfl ?_; refine sl_ev (ev_fld rfl) rfl ?_; refine sl_ev (ev_load rfl m0 rfl) rfl ?_; refine sl_ev (ev_move rfl) rfl ?_; refine sl_ev (ev_nilP rfl) rfl ?_; refine sl_ev (ev_fld rfl) rfl ?_; refine sl_ev (ev_load rfl m0 rfl) rfl ?_; refine sl_ev (ev_move rfl) rfl ?_; refine sl_ev (ev_nilP rfl) rfl ?_; refine sl_ev (ev_fld rfl) rfl ?_; refine sl_ev (ev_load rfl m0 rfl) rfl ?_; refine sl_ev (ev_len_s rfl) rfl ?_
  refine sl_ev (ev_slice rfl rfl rfl (by omega) (by omega) (by omega)) rfl ?_
  refine sl_ev (ev_nilI rfl) rfl ?_; refine sl_ev (ev_move rfl) rfl ?_; refine sl_nil ?_
  have e1 : ((blen : Nat) : Int).toNat - ((start + data.length : Nat) : Int).toNat = blen - (start + data.length) := by omega
  rw [e1, if_neg (by simp; omega)]
  have hread := read_ct hE rd ps hrd rb bb (0 + ((start + data.length : Nat) : Int).toNat) (blen - (start + data.length)) (blen - ((start + data.length : Nat) : Int).toNat) (bcells bs) (by simp; omega) (by omega)
  refine ol_invoke1 (R := (sb, scL E rb sv mx tok (.slice (some ⟨bb, 0, none⟩) blen blen) start (start + data.length) none emp true false) :: T) rfl rfl (run_Read _ _) rfl hread (List.perm_middle (l₁ := [_, _]).symm) ?_
  rintro v G' ⟨rfl, rfl⟩
  have hm : readM ps (⟨s, data, start, blen, mx, rd, none, emp⟩ : M σ) = ⟨s, data ++ (rd.text.drop rd.at').take (rdN rd ps (blen - (start + data.length))), start, blen, mx, rdNext rd ps (blen - (start + data.length)), rdErr rd ps (blen - (start + data.length)), if rdErr rd ps (blen - (start + data.length)) = none then 0 else emp⟩ := rfl
  rw [hm]
  have hle := rdN_le rd ps (blen - (start + data.length))
  have hpos : rd.at' < rd.text.length → 0 < rdN rd ps (blen - (start + data.length)) := fun h => rdN_pos (by omega) h
  have herr : ∀ k, rdErr rd ps (blen - (start + data.length)) = some k → k = 0 ∨ k = 8 := fun k hk => by
    unfold rdErr at hk
    split at hk
    · cases hk
    · cases hk; split <;> simp
  have hnone : rdErr rd ps (blen - (start + data.length)) = none → 0 < rdN rd ps (blen - (start + data.length)) := fun h => by
    unfold rdErr at h
    split at h
    · rename_i hh
      rcases hh with hh | hh
      · exact hpos (by omega)
      · exact hh.1
    · cases h
  have hrd' := hrd.next (blen - (start + data.length))
  generalize rdN rd ps (blen - (start + data.length)) = n at *
  generalize rdErr rd ps (blen - (start + data.length)) = er at *
  generalize rdNext rd ps (blen - (start + data.length)) = rd' at *
  have hchl : ((rd.text.drop rd.at').take n).length = n := by simp; omega
  generalize (rd.text.drop rd.at').take n = ch at *
  clear hread e1 hm
  have e2 : (⟨splice (bcells bs) (0 + ((start + data.length : Nat) : Int).toNat) (bcells ch), 5, (0, 0)⟩ : HO) = bufO (bs.take (start + data.length) ++ ch ++ bs.drop (start + data.length + n)) := by
    simp only [bufO, splice, bcells_append, ← bcells_take, ← bcells_drop, bcells_length, hchl, Nat.zero_add, Int.toNat_natCast]
  rw [e2]
  refine OL.perm (K := (sb, scL E rb sv mx tok (.slice (some ⟨bb, 0, none⟩) blen blen) start (start + data.length) none emp true false) :: (rb, rd'.ho) :: (bb, bufO (bs.take (start + data.length) ++ ch ++ bs.drop (start + data.length + n))) :: T) (List.perm_middle (l₁ := [_, _])) ?_
  have hbl : (bs.take (start + data.length) ++ ch ++ bs.drop (start + data.length + n)).length = bs.length := by simp; omega
  have hdat' : ((bs.take (start + data.length) ++ ch ++ bs.drop (start + data.length + n)).drop start).take (data ++ ch).length = data ++ ch := by
    have e3 : bs.take (start + data.length) = bs.take start ++ data := by rw [List.take_add, hdat]
    rw [e3]
    have e4 : (bs.take start).length = start := by simp; omega
    rw [List.append_assoc, List.append_assoc, List.drop_left' e4, ← List.append_assoc, List.take_left]
  generalize bs.take (start + data.length) ++ ch ++ bs.drop (start + data.length + n) = bs4 at *
  clear e2
  have fin : ∀ em, em = (if er = none then 0 else emp) → ∀ l, SubE l [(0, .pointer (some ⟨sb, 0, none⟩))] → ∀ H', H' = (sb, scL E rb sv mx tok (.slice (some ⟨bb, 0, none⟩) blen blen) start (start + data.length + n) er em true false) :: (rb, rd'.ho) :: (bb, bufO bs4) :: T →
      (SubE l [(0, .pointer (some ⟨sb, 0, none⟩))] ∧ ∃ bs4, H' = scanH E sb rb sv (⟨s, data ++ ch, start, blen, mx, rd', er, if er = none then 0 else emp⟩ : M σ) bb bs4 tok T false ∧ Inv W ps I (⟨s, data ++ ch, start, blen, mx, rd', er, if er = none then 0 else emp⟩ : M σ) bb bs4 tok T) := by
    rintro em rfl l hl H' rfl
    have hemp : emp ≤ 100 := inv.ok.emp
    refine ⟨hl, bs4, ?_, ⟨⟨?_, hbig, hrd', fun k hk => ?_, ?_, inv.ok.mx⟩, by rw [hbl, hlen], hdat', inv.inv, inv.tok.buf hbl⟩⟩
    · show _ = (sb, scL E rb sv mx tok _ start (start + (data ++ ch).length) er _ true false) :: _
      rw [List.length_append, hchl, Nat.add_assoc]
    · show start + (data ++ ch).length ≤ blen
      rw [List.length_append, hchl]; omega
    · rcases herr k hk with h | h <;> omega
    · show (if er = none then 0 else emp) ≤ 100
      split <;> omega
  refine ol_nil ?_
  refine sl_ev (ev_move rfl) rfl ?_; refine sl_ev (ev_extract rfl rfl) rfl ?_; refine sl_ev (ev_extract rfl rfl) rfl ?_; refine sl_ev (ev_assign rfl) rfl ?_; refine sl_ev (ev_assign rfl) rfl ?_; refine sl_nil ?_
  refine CW.weak (r := [(0, .pointer (some ⟨sb, 0, none⟩)), (8, .int .i64 0), (9, .int .i64 (n : Int)), (10, errO E er)]) ⟨rfl, rfl, rfl, rfl, trivial⟩ ?_
  refine cw_cut (fun l' H' => SubE l' [(0, .pointer (some ⟨sb, 0, none⟩)), (8, .int .i64 0), (9, .int .i64 (n : Int)), (10, errO E er)] ∧ H' = (sb, scL E rb sv mx tok (.slice (some ⟨bb, 0, none⟩) blen blen) start (start + data.length) none emp true false) :: (rb, rd'.ho) :: (bb, bufO bs4) :: T) ?_ ?_
  · refine cw_seq (cw_still mixed (by kernel_rfl) ?_)
    refine sl_ev (ev_move rfl) rfl ?_; refine sl_ev (ev_lt rfl rfl) rfl ?_; refine sl_ev (ev_move rfl) rfl ?_; refine sl_on rfl rfl rfl ?_; refine sl_ev (ev_move rfl) rfl ?_; refine sl_on rfl rfl rfl ?_; refine sl_ev (ev_nilP rfl) rfl ?_; refine sl_on rfl rfl rfl ?_; refine sl_ev (ev_fld rfl) rfl ?_; refine sl_on rfl rfl rfl ?_; refine sl_ev (ev_load rfl m0 rfl) rfl ?_; refine sl_on rfl rfl rfl ?_; refine sl_ev (ev_len_s rfl) rfl ?_; refine sl_on rfl rfl rfl ?_; refine sl_ev (ev_move rfl) rfl ?_; refine sl_on rfl rfl rfl ?_; refine sl_ev (ev_nilP rfl) rfl ?_; refine sl_on rfl rfl rfl ?_; refine sl_ev (ev_fld rfl) rfl ?_; refine sl_on rfl rfl rfl ?_; refine sl_ev (ev_load rfl m0 rfl) rfl ?_; refine sl_on rfl rfl rfl ?_; (refine sl_ev (ev_sub rfl rfl ?_) rfl ?_; (constructor <;> omega)); refine sl_on rfl rfl rfl ?_; refine sl_ev (ev_move rfl) rfl ?_; refine sl_on rfl rfl rfl ?_; refine sl_ev (ev_lt rfl rfl) rfl ?_; refine sl_ev (ev_pick_f rfl rfl) rfl ?_; refine sl_nil ?_
    rw [decide_eq_false (by omega : ¬ ((n : Int) < 0))]
    skip
    rw [decide_eq_false (by omega : ¬ ((blen : Int) - ((start + data.length : Nat) : Int) < (n : Int)))]
    skip
    refine cw_if_f rfl ?_; refine cw_skip ?_
    exact ⟨⟨rfl, rfl, rfl, rfl, trivial⟩, rfl⟩
  rintro l' H' ⟨hl, rfl⟩
  refine CW.weak hl ?_
  clear hl
  refine cw_seq ?_; refine cw_region ?_; refine ol_ev (ev_move rfl) rfl ?_; refine ol_ev (ev_nilP rfl) rfl ?_; refine ol_ev (ev_fld rfl) rfl ?_; refine ol_ev (ev_load rfl m0 rfl) rfl ?_; refine ol_ev (ev_move rfl) rfl ?_; (refine ol_ev (ev_add rfl rfl ?_) rfl ?_; (constructor <;> omega)); refine ol_ev (ev_nilP rfl) rfl ?_; refine ol_ev (ev_fld rfl) rfl ?_; refine ol_store rfl rfl rfl u0 rfl rfl ?_; refine ol_nil ?_; refine cw_seq ?_; refine cw_seq ?_; refine cw_region ?_; refine ol_ev (ev_move rfl) rfl ?_
  refine ol_ev (ev_neO (E := E) rfl) rfl (ol_nil (cw_ifd rfl (fun hc => ?_) (fun hc => ?_)))
  · obtain ⟨c, rfl⟩ : ∃ c, er = some c := by cases er with | none => exact absurd rfl hc | some c => exact ⟨c, rfl⟩
    refine cw_seq ?_; refine cw_region ?_; refine ol_ev (ev_move rfl) rfl ?_; refine ol_ev (ev_move rfl) rfl ?_
    have hse := setErr_ct hE ⟨rb, sv, mx, tok, .slice (some ⟨bb, 0, none⟩) blen blen, start, start + data.length + n, none, emp, true, false⟩ sb c (fun k hk => by cases hk)
    refine ol_call2 (R := (rb, rd'.ho) :: (bb, bufO bs4) :: T) (cap := []) rfl rfl rfl rfl hse (List.Perm.refl _) ?_
    rintro v G' rfl
    refine ol_nil ?_; refine cw_exit ?_
    exact fin emp (by rw [if_neg (by simp)]) _ ⟨rfl, trivial⟩ _ rfl
  · obtain rfl : er = none := by cases er with | none => rfl | some c => exact absurd (by simp) hc
    have hn := hnone rfl
    refine cw_skip ?_; refine cw_seq ?_; refine cw_seq ?_; refine cw_region ?_; refine ol_ev (ev_move rfl) rfl ?_; refine ol_ev (ev_gt rfl rfl) rfl ?_; refine ol_nil ?_
    refine cw_ifd rfl (fun hc2 => ?_) (fun hc2 => by omega)
    refine cw_seq ?_; refine cw_region ?_; refine ol_ev (ev_move rfl) rfl ?_; refine ol_ev (ev_nilP rfl) rfl ?_; refine ol_ev (ev_fld rfl) rfl ?_; refine ol_store rfl rfl rfl u0 rfl rfl ?_; refine ol_nil ?_; refine cw_exit ?_
    exact fin 0 (by rw [if_pos rfl]) _ ⟨rfl, trivial⟩ _ rfl

/-- Behind the split function's part of a round. -/
theorem scan_B (hE : Errs W E) (hmore : ∀ s T x, I s T → I s (x :: T)) (ps : List Int) (go : M σ → End σ → Prop) (m : M σ) (e : End σ) (sb rb bb : Nat) (bs : List UInt8) (tok : Value) (T : Heap) (w1 : World) (D : List Nat) (inv : Inv W ps I m bb bs tok T) (hrest : Rest ps go m e)
    (Q : Exit → Env → Heap → Prop) (hret : ∀ l H, (∃ v, look l 2 = some v ∧ Left' W E ps I sb rb sv e v H) → Q .ret l H) :
    CW Tryd.prog ⟨W, w1, D, Tryd.f34.ntmps⟩ (nv (bodyOf Tryd.f34) [true, false, false, false, true, true, true]) [(0, .pointer (some ⟨sb, 0, none⟩))]
      (scanH E sb rb sv m bb bs tok T false)
      (thenQ (fun l' H' => SubE l' [(0, .pointer (some ⟨sb, 0, none⟩))] ∧ ∃ m4 bb4 bs4 T4, H' = scanH E sb rb sv m4 bb4 bs4 tok T4 false ∧ Inv W ps I m4 bb4 bs4 tok T4 ∧ go m4 e) Q) := by
  refine cw_cut (fun l' H' => SubE l' [(0, .pointer (some ⟨sb, 0, none⟩))] ∧ m.err = none ∧ H' = scanH E sb rb sv m bb bs tok T false) ?_ ?_
  · obtain ⟨s, data, start, blen, mx, rd, err, emp⟩ := m
    show CW _ _ _ _ ((sb, scL E rb sv mx tok (.slice (some ⟨bb, 0, none⟩) blen blen) start (start + data.length) err emp true false) :: (rb, rd.ho) :: (bb, bufO bs) :: T) _
    refine cw_seq ?_; refine cw_region ?_; refine ol_ev (ev_move rfl) rfl ?_; refine ol_ev (ev_nilP rfl) rfl ?_; refine ol_ev (ev_fld rfl) rfl ?_; refine ol_ev (ev_load rfl m0 rfl) rfl ?_
    refine ol_ev (ev_neO (E := E) rfl) rfl (ol_nil (cw_ifd rfl (fun hc => ?_) (fun hc => ?_)))
    · unfold Rest at hrest
      rw [if_pos hc] at hrest
      obtain ⟨hb, hdn, hm⟩ := hrest
      refine cw_seq ?_; refine cw_region ?_; refine ol_ev (ev_move rfl) rfl ?_; refine ol_ev (ev_nilP rfl) rfl ?_; refine ol_ev (ev_fld rfl) rfl ?_; refine ol_store rfl rfl rfl u0 rfl rfl ?_; refine ol_nil ?_; refine cw_seq ?_; refine cw_region ?_; refine ol_ev (ev_move rfl) rfl ?_; refine ol_ev (ev_nilP rfl) rfl ?_; refine ol_ev (ev_fld rfl) rfl ?_; refine ol_store rfl rfl rfl u0 rfl rfl ?_; refine ol_nil ?_; refine cw_seq ?_; refine cw_region ?_; refine ol_ev (ev_assign rfl) rfl ?_; refine ol_nil ?_; refine cw_ret ?_
      refine hret _ _ ⟨_, rfl, ?_, bb, bs, tok, T, ?_, ?_, ?_⟩
      · rw [hb]
      · rw [hm, hdn]; rfl
      · rw [hm]
        refine ⟨⟨?_, inv.ok.big, inv.ok.rd, inv.ok.err, inv.ok.emp, inv.ok.mx⟩, inv.len, ?_, inv.inv, inv.tok⟩
        · show 0 + 0 ≤ blen; omega
        · show (bs.drop 0).take 0 = []; simp
      · rw [hb]; intro h; cases h
    · refine cw_skip ?_
      exact ⟨⟨rfl, trivial⟩, by simpa using hc, rfl⟩
  rintro l' H' ⟨hl, herr, rfl⟩
  refine CW.weak hl ?_
  clear hl
  unfold Rest at hrest
  rw [if_neg (by simp [herr])] at hrest
  refine cw_cut _ (scan_C (E := E) (sv := sv) ps m sb rb bb bs tok T w1 D inv _) ?_
  rintro l' H' ⟨hl, bs2, rfl, inv2⟩
  refine CW.weak hl ?_
  clear hl
  have herr2 : (shiftM m).err = none := by unfold shiftM; split <;> exact herr
  have hbl : (shiftM m).blen = m.blen ∧ (shiftM m).mx = m.mx := by unfold shiftM; split <;> exact ⟨rfl, rfl⟩
  have hs0 : (shiftM m).start + (shiftM m).data.length = (shiftM m).blen → (shiftM m).start = 0 := by
    unfold shiftM
    split
    · intro _; rfl
    · rename_i h
      intro h2
      have : ¬ 0 < m.start := fun h3 => h ⟨h3, .inl h2⟩
      omega
  refine cw_cut _ (scan_D hE hmore ps go (shiftM m) e sb rb bb bs2 tok T w1 D inv2 herr2 (by rw [← hbl.2, ← hbl.1] at hrest; exact hrest) hs0 _ (fun l H h => hret l H h)) ?_
  rintro l' H' ⟨hl, m3, bb3, bs3, T3, rfl, inv3, he3, hroom, hgo⟩
  refine CW.weak hl ?_
  clear hl
  refine (scan_E hE ps m3 sb rb bb3 bs3 tok T3 w1 D inv3 he3 hroom Q).mono fun ex l' H' hq => ?_
  cases ex with
  | normal =>
    obtain ⟨h1, bs4, rfl, inv4⟩ := hq
    exact ⟨h1, _, bb3, bs4, T3, rfl, inv4, hgo⟩
  | _ => exact hq
end

section
variable {W : World} {E : Nat → Addr} {σ : Type} {fid : Nat} {cap : List Value} {step : σ → List UInt8 → Bool → Ans σ} {I : σ → Heap → Prop}

/-- A round of Scan. -/
theorem scan_round (hE : Errs W E) (hsp : SplitOk W E fid cap step I) (ps : List Int) (n : Nat) (m : M σ) (e : End σ) (sb rb bb : Nat) (bs : List UInt8) (tok : Value) (T : Heap) (w1 : World) (D : List Nat)
    (hsc : Scans step ps (n + 1) m e) (inv : Inv W ps I m bb bs tok T) (Q : Exit → Env → Heap → Prop) (hret : ∀ l H, (∃ v, look l 2 = some v ∧ Left' W E ps I sb rb (.func (.func fid) #[] cap.toArray) e v H) → Q .ret l H) :
    CW Tryd.prog ⟨W, w1, D, Tryd.f34.ntmps⟩ (nv (bodyOf Tryd.f34) [false, false, true, true, true]) [(0, .pointer (some ⟨sb, 0, none⟩))]
      (scanH E sb rb (.func (.func fid) #[] cap.toArray) m bb bs tok T false)
      (thenQ (fun l' H' => SubE l' [(0, .pointer (some ⟨sb, 0, none⟩))] ∧ ∃ m4 bb4 bs4 tok4 T4, H' = scanH E sb rb (.func (.func fid) #[] cap.toArray) m4 bb4 bs4 tok4 T4 false ∧ Inv W ps I m4 bb4 bs4 tok4 T4 ∧ Scans step ps n m4 e) Q) := by
  refine cw_block ?_
  refine cw_cut _ (scan_A hE hsp ps n m e sb rb bb bs tok T w1 D hsc inv _ (fun l H h => hret l H h)) ?_
  rintro l' H' ⟨hl, m1, tok1, T1, rfl, hrest, inv1⟩
  refine CW.weak hl ?_
  refine (scan_B hE hsp.more ps (Scans step ps n) m1 e sb rb bb bs tok1 T1 w1 D inv1 hrest (blockQ 1 (thenQ (fun _ _ => False) Q)) (fun l H h => hret l H h)).mono fun ex l' H' hq => ?_
  cases ex with
  | normal =>
    obtain ⟨h1, m4, bb4, bs4, T4, rfl, inv4, hgo⟩ := hq
    exact ⟨h1, m4, bb4, bs4, tok1, T4, rfl, inv4, hgo⟩
  | exit i =>
    have hq' : blockQ 1 (thenQ (fun _ _ => False) Q) (.exit i) l' H' := hq
    simp only [blockQ] at hq' ⊢
    by_cases hi : i = 1
    · rw [if_pos hi] at hq'; exact hq'.elim
    · rw [if_neg hi] at hq' ⊢; exact hq'
  | _ => exact hq

/-- The memory of a scanner that has no buffer yet. -/
def nilH (E : Nat → Addr) (sb rb : Nat) (sv : Value) (m : M σ) (called : Bool) (T : Heap) : Heap :=
  (sb, scL E rb sv m.mx (.slice none 0 0) (.slice none 0 0) 0 0 none 0 called false) :: (rb, m.rd.ho) :: T

/-- The first round of Scan without a buffer. -/
theorem scan_nil_round (hE : Errs W E) (_hsp : SplitOk W E fid cap step I) (ps : List Int) (n : Nat) (m : M σ) (e : End σ) (sb rb : Nat) (T : Heap) (w1 : World) (D : List Nat)
    (hsc : Scans step ps (n + 1) m e) (hm : m.data = [] ∧ m.start = 0 ∧ m.blen = 0 ∧ m.err = none ∧ m.emp = 0 ∧ 0 < m.mx) (hok : MOk ps W m) (hI : I m.s T) (Q : Exit → Env → Heap → Prop) :
    CW Tryd.prog ⟨W, w1, D, Tryd.f34.ntmps⟩ (nv (bodyOf Tryd.f34) [false, false, true, true, true]) [(0, .pointer (some ⟨sb, 0, none⟩))]
      (nilH E sb rb (.func (.func fid) #[] cap.toArray) m true T)
      (thenQ (fun l' H' => SubE l' [(0, .pointer (some ⟨sb, 0, none⟩))] ∧ ∃ m4 bb4 bs4 tok4 T4, H' = scanH E sb rb (.func (.func fid) #[] cap.toArray) m4 bb4 bs4 tok4 T4 false ∧ Inv W ps I m4 bb4 bs4 tok4 T4 ∧ Scans step ps n m4 e) Q) := by
  obtain ⟨s, data, start, blen, mx, rd, err, emp⟩ := m
  obtain ⟨rfl, rfl, rfl, rfl, rfl, hmx⟩ := hm
  simp only at hmx hI
  have hmx2 : mx ≤ 9223372036854775807 := hok.mx
  unfold Scans at hsc
  rw [if_neg (by simp)] at hsc
  unfold Rest at hsc
  have hsh : shiftM (⟨s, [], 0, 0, mx, rd, none, 0⟩ : M σ) = ⟨s, [], 0, 0, mx, rd, none, 0⟩ := by unfold shiftM; rw [if_neg (by simp)]
  rw [if_neg (by simp), hsh, if_pos (by simp), if_neg (by simp; omega)] at hsc
  have hn0 : ((newLen (⟨s, [], 0, 0, mx, rd, none, 0⟩ : M σ) : Nat) : Int) = min (4096 : Int) mx := by unfold newLen; simp; omega
  have hgr : growM (⟨s, [], 0, 0, mx, rd, none, 0⟩ : M σ) = ⟨s, [], 0, newLen (⟨s, [], 0, 0, mx, rd, none, 0⟩ : M σ), mx, rd, none, 0⟩ := rfl
  obtain ⟨hnb, hgo⟩ := hsc
  rw [hgr] at hgo
  generalize newLen (⟨s, [], 0, 0, mx, rd, none, 0⟩ : M σ) = nl at *
  clear hgr hsh
  show CW _ _ _ _ ((sb, scL E rb (.func (.func fid) #[] cap.toArray) mx (.slice none 0 0) (.slice none 0 0) 0 0 none 0 true false) :: (rb, rd.ho) :: T) _
  refine cw_block ?_
  refine cw_cut (fun l' H' => SubE l' [(0, .pointer (some ⟨sb, 0, none⟩))] ∧ H' = (sb, scL E rb (.func (.func fid) #[] cap.toArray) mx (.slice none 0 0) (.slice none 0 0) 0 0 none 0 true false) :: (rb, rd.ho) :: T) ?_ ?_
  · refine cw_seq (cw_still mixed (by kernel_rfl) ?_)
    refine sl_ev (ev_move rfl) rfl ?_; refine sl_ev (ev_nilP rfl) rfl ?_; refine sl_ev (ev_fld rfl) rfl ?_; refine sl_ev (ev_load rfl m0 rfl) rfl ?_; refine sl_ev (ev_move rfl) rfl ?_; refine sl_ev (ev_nilP rfl) rfl ?_; refine sl_ev (ev_fld rfl) rfl ?_; refine sl_ev (ev_load rfl m0 rfl) rfl ?_; refine sl_ev (ev_gt rfl rfl) rfl ?_; refine sl_ev (ev_move rfl) rfl ?_; refine sl_on rfl rfl rfl ?_; refine sl_ev (ev_move rfl) rfl ?_; refine sl_on rfl rfl rfl ?_; refine sl_ev (ev_nilP rfl) rfl ?_; refine sl_on rfl rfl rfl ?_; refine sl_ev (ev_fld rfl) rfl ?_; refine sl_on rfl rfl rfl ?_; refine sl_ev (ev_load rfl m0 rfl) rfl ?_; refine sl_on rfl rfl rfl ?_; refine sl_ev (ev_nenil_n rfl) rfl ?_; refine sl_ev (ev_pick_f rfl rfl) rfl ?_; refine sl_nil ?_
    rw [decide_eq_false (by simp : ¬ (((0 : Nat) : Int) < ((0 : Nat) : Int)))]
    skip
    refine cw_if_f rfl ?_; refine cw_skip ?_
    exact ⟨⟨rfl, trivial⟩, rfl⟩
  rintro l' H' ⟨hl, rfl⟩
  refine CW.weak hl ?_
  clear hl
  refine cw_cut (fun l' H' => SubE l' [(0, .pointer (some ⟨sb, 0, none⟩))] ∧ H' = (sb, scL E rb (.func (.func fid) #[] cap.toArray) mx (.slice none 0 0) (.slice none 0 0) 0 0 none 0 true false) :: (rb, rd.ho) :: T) ?_ ?_
  · refine cw_seq ?_; refine cw_region ?_; refine ol_ev (ev_move rfl) rfl ?_; refine ol_ev (ev_nilP rfl) rfl ?_; refine ol_ev (ev_fld rfl) rfl ?_; refine ol_ev (ev_load rfl m0 rfl) rfl ?_; refine ol_ev (ev_nenil_n rfl) rfl ?_; refine ol_nil ?_; refine cw_if_f rfl ?_; refine cw_skip ?_
    exact ⟨⟨rfl, trivial⟩, rfl⟩
  rintro l' H' ⟨hl, rfl⟩
  refine CW.weak hl ?_
  clear hl
  refine cw_cut (fun l' H' => SubE l' [(0, .pointer (some ⟨sb, 0, none⟩))] ∧ H' = (sb, scL E rb (.func (.func fid) #[] cap.toArray) mx (.slice none 0 0) (.slice none 0 0) 0 0 none 0 true false) :: (rb, rd.ho) :: T) ?_ ?_
  · refine cw_seq (cw_still mixed (by kernel_rfl) ?_)
    refine sl_ev (ev_move rfl) rfl ?_; refine sl_ev (ev_nilP rfl) rfl ?_; refine sl_ev (ev_fld rfl) rfl ?_; refine sl_ev (ev_load rfl m0 rfl) rfl ?_; refine sl_ev (ev_gt rfl rfl) rfl ?_; refine sl_ev (ev_move rfl) rfl ?_; (iterate 11 (refine sl_off rfl rfl rfl rfl rfl ?_)); (iterate 11 (refine sl_offu rfl rfl rfl rfl ?_)); refine sl_off rfl rfl rfl rfl rfl ?_; refine sl_ev (ev_pick_f rfl rfl) rfl ?_; refine sl_nil ?_
    rw [decide_eq_false (by simp : ¬ ((0 : Int) < ((0 : Nat) : Int)))]
    skip
    refine cw_if_f rfl ?_; refine cw_skip ?_
    exact ⟨⟨rfl, trivial⟩, rfl⟩
  rintro l' H' ⟨hl, rfl⟩
  refine CW.weak hl ?_
  clear hl
  refine cw_cut (fun l' H' => SubE l' [(0, .pointer (some ⟨sb, 0, none⟩))] ∧ ∃ nb, H' = scanH E sb rb (.func (.func fid) #[] cap.toArray) (⟨s, [], 0, nl, mx, rd, none, 0⟩ : M σ) nb (List.replicate nl 0) (.slice none 0 0) T false) ?_ ?_
  · refine cw_seq (cw_still mixed (by kernel_rfl) ?_)
    refine sl_ev (ev_move rfl) rfl ?_; refine sl_ev (ev_nilP rfl) rfl ?_; refine sl_ev (ev_fld rfl) rfl ?_; refine sl_ev (ev_load rfl m0 rfl) rfl ?_; refine sl_ev (ev_move rfl) rfl ?_; refine sl_ev (ev_nilP rfl) rfl ?_; refine sl_ev (ev_fld rfl) rfl ?_; refine sl_ev (ev_load rfl m0 rfl) rfl ?_; refine sl_ev (ev_len_s rfl) rfl ?_; refine sl_ev (ev_eq rfl rfl) rfl ?_; refine sl_nil ?_
    rw [decide_eq_true (by simp : ((0 : Nat) : Int) = ((0 : Nat) : Int))]
    refine cw_if_t rfl ?_; refine cw_seq ?_; refine cw_seq ?_
    refine cw_still mixed (by kernel_rfl) ?_
    refine sl_ev (ev_move rfl) rfl ?_; refine sl_ev (ev_nilP rfl) rfl ?_; refine sl_ev (ev_fld rfl) rfl ?_; refine sl_ev (ev_load rfl m0 rfl) rfl ?_; refine sl_ev (ev_len_s rfl) rfl ?_; refine sl_ev (ev_move rfl) rfl ?_; refine sl_ev (ev_nilP rfl) rfl ?_; refine sl_ev (ev_fld rfl) rfl ?_; refine sl_ev (ev_load rfl m0 rfl) rfl ?_; refine sl_ev (ev_ge rfl rfl) rfl ?_; refine sl_ev (ev_move rfl) rfl ?_
    rw [decide_eq_false (by omega : ¬ (mx ≤ ((0 : Nat) : Int)))]
    refine sl_on rfl rfl rfl ?_; refine sl_ev (ev_move rfl) rfl ?_; refine sl_on rfl rfl rfl ?_; refine sl_ev (ev_nilP rfl) rfl ?_; refine sl_on rfl rfl rfl ?_; refine sl_ev (ev_fld rfl) rfl ?_; refine sl_on rfl rfl rfl ?_; refine sl_ev (ev_load rfl m0 rfl) rfl ?_; refine sl_on rfl rfl rfl ?_; refine sl_ev (ev_len_s rfl) rfl ?_; refine sl_on rfl rfl rfl ?_; refine sl_ev (ev_gt rfl rfl) rfl ?_; refine sl_ev (ev_pick_f rfl rfl) rfl ?_; refine sl_nil ?_
    rw [decide_eq_false (by omega : ¬ ((4611686018427387903 : Int) < ((0 : Nat) : Int)))]
    skip
    refine cw_if_f rfl ?_; refine cw_skip ?_; refine cw_seq ?_; refine cw_region ?_; refine ol_ev (ev_move rfl) rfl ?_; refine ol_ev (ev_nilP rfl) rfl ?_; refine ol_ev (ev_fld rfl) rfl ?_; refine ol_ev (ev_load rfl m0 rfl) rfl ?_; refine ol_ev (ev_len_s rfl) rfl ?_
    refine ol_ev (ev_mul rfl rfl (by constructor <;> omega)) rfl ?_
    refine ol_ev (ev_assign rfl) rfl ?_; refine ol_nil ?_; refine cw_seq ?_; refine cw_seq ?_; refine cw_region ?_; refine ol_ev (ev_move rfl) rfl ?_; refine ol_ev (ev_eq rfl rfl) rfl ?_; refine ol_nil ?_; refine cw_if_t rfl ?_; refine cw_region ?_; refine ol_ev (ev_assign rfl) rfl ?_; refine ol_nil ?_; refine cw_seq ?_; refine cw_region ?_; refine ol_ev (ev_move rfl) rfl ?_; refine ol_ev (ev_move rfl) rfl ?_; refine ol_ev (ev_nilP rfl) rfl ?_; refine ol_ev (ev_fld rfl) rfl ?_; refine ol_ev (ev_load rfl m0 rfl) rfl ?_; refine ol_ev (ev_min rfl rfl) rfl ?_; refine ol_ev (ev_assign rfl) rfl ?_; refine ol_nil ?_; refine cw_seq ?_; refine cw_region ?_; refine ol_ev (ev_move rfl) rfl ?_
    rw [decide_eq_true (by simp : ((0 : Nat) : Int) * 2 = 0)]
    skip
    rw [← hn0]
    refine ol_make rfl rfl (by omega) (by omega) (by omega) (by omega) rfl rfl ?_
    intro nb
    rw [Int.toNat_natCast]
    refine ol_ev (ev_assign rfl) rfl ?_; refine ol_nil ?_; refine cw_seq ?_
    refine cw_tail 14 mixed (by kernel_rfl) ?_
    refine sl_ev (ev_move rfl) rfl ?_; refine sl_ev (ev_move rfl) rfl ?_; refine sl_ev (ev_nilP rfl) rfl ?_; refine sl_ev (ev_fld rfl) rfl ?_; refine sl_ev (ev_load rfl m1 rfl) rfl ?_; refine sl_ev (ev_move rfl) rfl ?_; refine sl_ev (ev_nilP rfl) rfl ?_; refine sl_ev (ev_fld rfl) rfl ?_; refine sl_ev (ev_load rfl m1 rfl) rfl ?_; refine sl_ev (ev_move rfl) rfl ?_; refine sl_ev (ev_nilP rfl) rfl ?_; refine sl_ev (ev_fld rfl) rfl ?_; refine sl_ev (ev_load rfl m1 rfl) rfl ?_
    refine sl_ev (ev_slice_any rfl rfl rfl (by omega) (by omega) (by omega)) rfl (sl_nil ?_)
    refine ol_copy_none rfl rfl rfl ?_
    have hz : ∀ k, List.replicate k (Value.int .u8 0) = bcells (List.replicate k 0) := fun k => by simp [bcells, bv]
    rw [hz]
    refine ol_nil ?_
    refine CW.weak (r := [(0, .pointer (some ⟨sb, 0, none⟩)), (7, .slice (some ⟨nb, 0, none⟩) nl nl)]) ⟨rfl, rfl, trivial⟩ ?_
    refine CW.perm (K := (sb, scL E rb (.func (.func fid) #[] cap.toArray) mx (.slice none 0 0) (.slice none 0 0) 0 0 none 0 true false) :: (rb, rd.ho) :: (nb, bufO (List.replicate nl 0)) :: T) ((List.Perm.swap _ _ _).trans ((List.Perm.swap _ _ _).cons _)) ?_
    refine cw_seq ?_; refine cw_region ?_; refine ol_ev (ev_move rfl) rfl ?_; refine ol_ev (ev_move rfl) rfl ?_; refine ol_ev (ev_nilP rfl) rfl ?_; refine ol_ev (ev_fld rfl) rfl ?_; refine ol_store rfl rfl rfl u0 rfl rfl ?_; refine ol_nil ?_; refine cw_seq ?_
    refine cw_tail 11 mixed (by kernel_rfl) ?_
    refine sl_ev (ev_move rfl) rfl ?_; refine sl_ev (ev_nilP rfl) rfl ?_; refine sl_ev (ev_fld rfl) rfl ?_; refine sl_ev (ev_load rfl m0 rfl) rfl ?_; refine sl_ev (ev_move rfl) rfl ?_; refine sl_ev (ev_nilP rfl) rfl ?_; refine sl_ev (ev_fld rfl) rfl ?_; refine sl_ev (ev_load rfl m0 rfl) rfl ?_; (refine sl_ev (ev_sub rfl rfl ?_) rfl ?_; (constructor <;> omega)); refine sl_ev (ev_nilP rfl) rfl ?_; refine sl_ev (ev_fld rfl) rfl ?_; refine sl_nil ?_
    refine ol_store rfl rfl rfl u0 rfl rfl ?_; refine ol_nil ?_; refine cw_region ?_; refine ol_ev (ev_move rfl) rfl ?_; refine ol_ev (ev_nilP rfl) rfl ?_; refine ol_ev (ev_fld rfl) rfl ?_; refine ol_store rfl rfl rfl u0 rfl rfl ?_; refine ol_nil ?_
    refine ⟨⟨rfl, trivial⟩, nb, ?_⟩
    have e3 : ((0 : Nat) : Int) - ((0 : Nat) : Int) = ((0 + ([] : List UInt8).length : Nat) : Int) := by simp
    rw [e3]; rfl
  rintro l' H' ⟨hl, nb, rfl⟩
  refine CW.weak hl ?_
  clear hl
  have inv3 : Inv W ps I (⟨s, [], 0, nl, mx, rd, none, 0⟩ : M σ) nb (List.replicate nl 0) (.slice none 0 0) T := ⟨⟨by simp, hnb, hok.rd, hok.err, by simp, hok.mx⟩, by simp, by simp, hI, .inl rfl⟩
  refine (scan_E hE ps (⟨s, [], 0, nl, mx, rd, none, 0⟩ : M σ) sb rb nb (List.replicate nl 0) (.slice none 0 0) T w1 D inv3 rfl (by show 0 + 0 < nl; omega) (blockQ 1 (thenQ (fun _ _ => False) Q))).mono fun ex l' H' hq => ?_
  cases ex with
  | normal =>
    obtain ⟨h1, bs4, rfl, inv4⟩ := hq
    exact ⟨h1, _, nb, bs4, .slice none 0 0, T, rfl, inv4, hgo⟩
  | exit i =>
    have hq' : blockQ 1 (thenQ (fun _ _ => False) Q) (.exit i) l' H' := hq
    simp only [blockQ] at hq' ⊢
    by_cases hi : i = 1
    · rw [if_pos hi] at hq'; exact hq'.elim
    · rw [if_neg hi] at hq' ⊢; exact hq'
  | _ => exact hq

/-- The loop of Scan, from a state with a buffer or without one. -/
theorem scan_loop (hE : Errs W E) (hsp : SplitOk W E fid cap step I) (ps : List Int) (n : Nat) (m : M σ) (e : End σ) (sb rb : Nat) (w1 : World) (D : List Nat) (H : Heap)
    (hsc : Scans step ps n m e) (hst : (∃ bb bs tok T, H = scanH E sb rb (.func (.func fid) #[] cap.toArray) m bb bs tok T false ∧ Inv W ps I m bb bs tok T) ∨
      (∃ T, H = nilH E sb rb (.func (.func fid) #[] cap.toArray) m true T ∧ (m.data = [] ∧ m.start = 0 ∧ m.blen = 0 ∧ m.err = none ∧ m.emp = 0 ∧ 0 < m.mx) ∧ MOk ps W m ∧ I m.s T))
    (Q : Exit → Env → Heap → Prop) (hret : ∀ l H, (∃ v, look l 2 = some v ∧ Left' W E ps I sb rb (.func (.func fid) #[] cap.toArray) e v H) → Q .ret l H) :
    CW Tryd.prog ⟨W, w1, D, Tryd.f34.ntmps⟩ (nv (bodyOf Tryd.f34) [false, true, true, true]) [(0, .pointer (some ⟨sb, 0, none⟩))] H Q := by
  refine cw_loop (σ := Nat × M σ × Heap) (fun _ => [(0, .pointer (some ⟨sb, 0, none⟩))]) (fun g => g.2.2)
    (fun g => Scans step ps g.1 g.2.1 e ∧ ((∃ bb bs tok T, g.2.2 = scanH E sb rb (.func (.func fid) #[] cap.toArray) g.2.1 bb bs tok T false ∧ Inv W ps I g.2.1 bb bs tok T) ∨
      (∃ T, g.2.2 = nilH E sb rb (.func (.func fid) #[] cap.toArray) g.2.1 true T ∧ (g.2.1.data = [] ∧ g.2.1.start = 0 ∧ g.2.1.blen = 0 ∧ g.2.1.err = none ∧ g.2.1.emp = 0 ∧ 0 < g.2.1.mx) ∧ MOk ps W g.2.1 ∧ I g.2.1.s T))) (fun g => g.1) (n, m, H) ⟨hsc, hst⟩ (fun _ h => h) rfl ?_
  rintro ⟨n, m, H⟩ ⟨hsc, hst⟩
  simp only at hsc hst ⊢
  cases n with
  | zero => exact hsc.elim
  | succ n =>
    have fin : ∀ (ex : Exit) (l' : Env) (H' : Heap), thenQ (fun l' H' => SubE l' [(0, .pointer (some ⟨sb, 0, none⟩))] ∧ ∃ m4 bb4 bs4 tok4 T4, H' = scanH E sb rb (.func (.func fid) #[] cap.toArray) m4 bb4 bs4 tok4 T4 false ∧ Inv W ps I m4 bb4 bs4 tok4 T4 ∧ Scans step ps n m4 e) Q ex l' H' →
        thenQ (fun l' H' => ∃ g' : Nat × M σ × Heap, (Scans step ps g'.1 g'.2.1 e ∧ ((∃ bb bs tok T, g'.2.2 = scanH E sb rb (.func (.func fid) #[] cap.toArray) g'.2.1 bb bs tok T false ∧ Inv W ps I g'.2.1 bb bs tok T) ∨
          (∃ T, g'.2.2 = nilH E sb rb (.func (.func fid) #[] cap.toArray) g'.2.1 true T ∧ (g'.2.1.data = [] ∧ g'.2.1.start = 0 ∧ g'.2.1.blen = 0 ∧ g'.2.1.err = none ∧ g'.2.1.emp = 0 ∧ 0 < g'.2.1.mx) ∧ MOk ps W g'.2.1 ∧ I g'.2.1.s T))) ∧
          SubE l' [(0, .pointer (some ⟨sb, 0, none⟩))] ∧ H' = g'.2.2 ∧ g'.1 < n + 1) Q ex l' H' := fun ex l' H' hq => by
      cases ex with
      | normal =>
        obtain ⟨h1, m4, bb4, bs4, tok4, T4, rfl, inv4, hgo⟩ := hq
        exact ⟨(n, m4, _), ⟨hgo, .inl ⟨bb4, bs4, tok4, T4, rfl, inv4⟩⟩, h1, rfl, Nat.lt_succ_self n⟩
      | _ => exact hq
    rcases hst with ⟨bb, bs, tok, T, rfl, inv⟩ | ⟨T, rfl, hm, hok, hI⟩
    · exact (scan_round hE hsp ps n m e sb rb bb bs tok T w1 D hsc inv Q hret).mono fin
    · exact (scan_nil_round hE hsp ps n m e sb rb T w1 D hsc hm hok hI Q).mono fin

/-- Scan, of a scanner that is not done. -/
theorem scan_ct (hE : Errs W E) (hsp : SplitOk W E fid cap step I) (ps : List Int) (n : Nat) (m : M σ) (e : End σ) (sb rb bb : Nat) (bs : List UInt8) (tok : Value) (T : Heap) (called : Bool)
    (hsc : Scans step ps n m e) (inv : Inv W ps I m bb bs tok T) :
    Ct Tryd.prog W 34 #[.pointer (some ⟨sb, 0, none⟩)]
      ((sb, scL E rb (.func (.func fid) #[] cap.toArray) m.mx tok (.slice (some ⟨bb, 0, none⟩) m.blen m.blen) m.start (m.start + m.data.length) m.err m.emp called false) :: (rb, m.rd.ho) :: (bb, bufO bs) :: T)
      (Left' W E ps I sb rb (.func (.func fid) #[] cap.toArray) e) := by
  refine ct_of_cw (vs := [_]) Tryd.func34 rfl rfl fun w1 => ?_
  refine cw_seq ?_; refine cw_region ?_; refine ol_ev (ev_assign rfl) rfl ?_; refine ol_nil ?_; refine cw_seq ?_; refine cw_seq ?_; refine cw_region ?_; refine ol_ev (ev_move rfl) rfl ?_; refine ol_ev (ev_nilP rfl) rfl ?_; refine ol_ev (ev_fld rfl) rfl ?_; refine ol_ev (ev_load rfl m0 rfl) rfl ?_; refine ol_nil ?_; refine cw_if_f rfl ?_; refine cw_skip ?_; refine cw_seq ?_; refine cw_region ?_; refine ol_ev (ev_move rfl) rfl ?_; refine ol_ev (ev_nilP rfl) rfl ?_; refine ol_ev (ev_fld rfl) rfl ?_; refine ol_store rfl rfl rfl u0 rfl rfl ?_; refine ol_nil ?_; refine cw_block ?_
  refine CW.weak (r := [(0, .pointer (some ⟨sb, 0, none⟩))]) ⟨rfl, trivial⟩ ?_
  exact scan_loop hE hsp ps n m e sb rb w1 _ _ hsc (.inl ⟨bb, bs, tok, T, rfl, inv⟩) _ (fun l H ⟨v, h1, h2⟩ => ⟨v, res1 rfl h1, h2⟩)

/-- Scan, the first call of a scanner that has no buffer yet. -/
theorem scan_nil_ct (hE : Errs W E) (hsp : SplitOk W E fid cap step I) (ps : List Int) (n : Nat) (m : M σ) (e : End σ) (sb rb : Nat) (T : Heap) (called : Bool)
    (hsc : Scans step ps n m e) (hm : m.data = [] ∧ m.start = 0 ∧ m.blen = 0 ∧ m.err = none ∧ m.emp = 0 ∧ 0 < m.mx) (hok : MOk ps W m) (hI : I m.s T) :
    Ct Tryd.prog W 34 #[.pointer (some ⟨sb, 0, none⟩)] (nilH E sb rb (.func (.func fid) #[] cap.toArray) m called T) (Left' W E ps I sb rb (.func (.func fid) #[] cap.toArray) e) := by
  show Ct _ _ _ _ ((sb, scL E rb (.func (.func fid) #[] cap.toArray) m.mx (.slice none 0 0) (.slice none 0 0) 0 0 none 0 called false) :: (rb, m.rd.ho) :: T) _
  refine ct_of_cw (vs := [_]) Tryd.func34 rfl rfl fun w1 => ?_
  refine cw_seq ?_; refine cw_region ?_; refine ol_ev (ev_assign rfl) rfl ?_; refine ol_nil ?_; refine cw_seq ?_; refine cw_seq ?_; refine cw_region ?_; refine ol_ev (ev_move rfl) rfl ?_; refine ol_ev (ev_nilP rfl) rfl ?_; refine ol_ev (ev_fld rfl) rfl ?_; refine ol_ev (ev_load rfl m0 rfl) rfl ?_; refine ol_nil ?_; refine cw_if_f rfl ?_; refine cw_skip ?_; refine cw_seq ?_; refine cw_region ?_; refine ol_ev (ev_move rfl) rfl ?_; refine ol_ev (ev_nilP rfl) rfl ?_; refine ol_ev (ev_fld rfl) rfl ?_; refine ol_store rfl rfl rfl u0 rfl rfl ?_; refine ol_nil ?_; refine cw_block ?_
  refine CW.weak (r := [(0, .pointer (some ⟨sb, 0, none⟩))]) ⟨rfl, trivial⟩ ?_
  exact scan_loop hE hsp ps n m e sb rb w1 _ _ hsc (.inr ⟨T, rfl, hm, hok, hI⟩) _ (fun l H ⟨v, h1, h2⟩ => ⟨v, res1 rfl h1, h2⟩)

/-- Scan, of a scanner that is done. -/
theorem scan_done_ct (s : Sc) (sb : Nat) (H : Heap) (hd : s.done = true) :
    Ct Tryd.prog W 34 #[.pointer (some ⟨sb, 0, none⟩)] ((sb, s.ho E) :: H) (fun v H' => v = .bool false ∧ H' = (sb, s.ho E) :: H) := by
  obtain ⟨rb, sv, mx, tok, buf, start, end_, err, emp, called, done⟩ := s
  simp only at hd
  subst hd
  refine ct_of_cw (vs := [_]) Tryd.func34 rfl rfl fun w1 => ?_
  refine cw_seq ?_; refine cw_region ?_; refine ol_ev (ev_assign rfl) rfl ?_; refine ol_nil ?_; refine cw_seq ?_; refine cw_seq ?_; refine cw_region ?_; refine ol_ev (ev_move rfl) rfl ?_; refine ol_ev (ev_nilP rfl) rfl ?_; refine ol_ev (ev_fld rfl) rfl ?_; refine ol_ev (ev_load rfl m0 rfl) rfl ?_; refine ol_nil ?_; refine cw_if_t rfl ?_; refine cw_seq ?_; refine cw_region ?_; refine ol_ev (ev_assign rfl) rfl ?_; refine ol_nil ?_; refine cw_ret ?_
  exact ⟨_, res1 rfl rfl, rfl, rfl⟩
end
end Go.HE
