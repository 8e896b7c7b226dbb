/- Scan, its split function's part: what it does in a round, by the split function's contract. Conditions: the errors are as start-up lays them; the split function meets its contract. -/
import Derived.Test.YtjalppojdomcoaaDoorModel
set_option maxRecDepth 100000
set_option maxHeartbeats 4000000
namespace Go.HE
open Go.RowKit Go.Proofs

def TokO (H : Heap) (tv : Value) : Option (List UInt8) → Prop
  | none => tv = .slice none 0 0
  | some t => TokAt H tv t
/-- A slice of bytes that can be read. -/
def TokV (H : Heap) (tv : Value) : Prop := tv = .slice none 0 0 ∨ ∃ t, TokAt H tv t

theorem TokO.v {H : Heap} {tv : Value} {t : Option (List UInt8)} (h : TokO H tv t) : TokV H tv := by
  cases t with
  | none => exact .inl h
  | some t => exact .inr ⟨t, h⟩

theorem TokV.keep {x : Nat × HO} {T T' : Heap} {tv : Value} (h : TokV (x :: T) tv) (hk : ∀ b o, (b, o) ∈ T → o.elem = 5 → (b, o) ∈ T') : TokV (x :: T') tv := by
  rcases h with h | ⟨t, b, off, cap, o, h1, h2, h3, h4⟩
  · exact .inl h
  · refine .inr ⟨t, b, off, cap, o, h1, ?_, h3, h4⟩
    rcases List.mem_cons.1 h2 with h2 | h2
    · exact List.mem_cons.2 (.inl h2)
    · exact List.mem_cons_of_mem _ (hk b o h2 h4)

/-- A split function by its contract: its answers are those of 'step', its own blocks are told by I. -/
structure SplitOk (W : World) (E : Nat → Addr) {σ : Type} (fid : Nat) (cap : List Value) (step : σ → List UInt8 → Bool → Ans σ) (I : σ → Heap → Prop) : Prop where
  body : hasBody Tryd.prog fid = true
  perm : ∀ s T T', T.Perm T' → I s T → I s T'
  more : ∀ s T x, I s T → I s (x :: T)
  err : ∀ s data atEOF c, (step s data atEOF).err = some c → c < 9
  call : ∀ s T bb off dcap cells data atEOF, I s T → (data ≠ [] ∨ atEOF = true) → (cells.drop off).take data.length = bcells data → off + data.length ≤ cells.length → data.length ≤ dcap → data.length ≤ 140737488355328 →
    Ct Tryd.prog W fid (.slice (some ⟨bb, off, none⟩) data.length dcap :: .bool atEOF :: cap).toArray ((bb, ⟨cells, 5, (0, 0)⟩) :: T)
      (fun v H' => ∃ tv T', v = .tuple #[.int .i64 (step s data atEOF).adv, tv, errO E (step s data atEOF).err] ∧ H' = (bb, ⟨cells, 5, (0, 0)⟩) :: T' ∧ I (step s data atEOF).st T' ∧ (∀ b o, (b, o) ∈ T → o.elem = 5 → (b, o) ∈ T') ∧ TokO H' tv (step s data atEOF).tok)

section
variable {W : World} {E : Nat → Addr} {σ : Type} {fid : Nat} {cap : List Value} {step : σ → List UInt8 → Bool → Ans σ} {I : σ → Heap → Prop}

/-- The buffer's block. -/
def bufO (bs : List UInt8) : HO := ⟨bcells bs, 5, (0, 0)⟩
/-- A scanner's memory. -/
def scanH (E : Nat → Addr) (sb rb : Nat) (sv : Value) (m : M σ) (bb : Nat) (bs : List UInt8) (tok : Value) (T : Heap) (dn : Bool) : Heap :=
  (sb, scL E rb sv m.mx tok (.slice (some ⟨bb, 0, none⟩) m.blen m.blen) m.start (m.start + m.data.length) m.err m.emp true dn) :: (rb, m.rd.ho) :: (bb, bufO bs) :: T

structure Inv (W : World) (ps : List Int) (I : σ → Heap → Prop) (m : M σ) (bb : Nat) (bs : List UInt8) (tok : Value) (T : Heap) : Prop where
  ok : MOk ps W m
  len : bs.length = m.blen
  dat : (bs.drop m.start).take m.data.length = m.data
  inv : I m.s T
  tok : TokV ((bb, bufO bs) :: T) tok

/-- What a call of Scan leaves. -/
def Left' (W : World) (E : Nat → Addr) (ps : List Int) (I : σ → Heap → Prop) (sb rb : Nat) (sv : Value) (e : End σ) (v : Value) (H' : Heap) : Prop :=
  v = .bool e.b ∧ ∃ bb bs tok T, H' = scanH E sb rb sv e.m bb bs tok T e.dn ∧ Inv W ps I e.m bb bs tok T ∧ (e.b = true → TokO ((bb, bufO bs) :: T) tok e.tok)

theorem setE_lt {e : Option Nat} {c k : Nat} (he : ∀ k, e = some k → k < 9) (hc : c < 9) (h : setE e c = some k) : k < 9 := by
  unfold setE at h
  split at h
  · cases h; exact hc
  · exact he k h

theorem scan_A (hE : Errs W E) (hsp : SplitOk W E fid cap step I) (ps : List Int) (n : Nat) (m : M σ) (e : End σ) (sb rb bb : Nat) (bs : List UInt8) (tok : Value) (T : Heap) (w1 : World) (D : List Nat)
    (hsc : Scans step ps (n + 1) m e) (inv : Inv W ps I m bb bs tok T) (Q : Exit → Env → Heap → Prop) (hret : ∀ l H, (∃ v, look l 2 = some v ∧ Left' W E ps I sb rb (.func (.func fid) #[] cap.toArray) e v H) → Q .ret l H) :
    CW Tryd.prog ⟨W, w1, D, Tryd.f34.ntmps⟩ (nv (bodyOf Tryd.f34) [false, false, false, false, true, true, true]) [(0, .pointer (some ⟨sb, 0, none⟩))]
      (scanH E sb rb (.func (.func fid) #[] cap.toArray) m bb bs tok T false)
      (thenQ (fun l' H' => SubE l' [(0, .pointer (some ⟨sb, 0, none⟩))] ∧ ∃ m1 tok1 T1, H' = scanH E sb rb (.func (.func fid) #[] cap.toArray) m1 bb bs tok1 T1 false ∧ Rest ps (Scans step ps n) m1 e ∧ Inv W ps I m1 bb bs tok1 T1) Q) := by
  obtain ⟨s, data, start, blen, mx, rd, err, emp⟩ := m
  have hfit : start + data.length ≤ blen := inv.ok.fit
  have hbig : blen ≤ 140737488355328 := inv.ok.big
  have herr : ∀ k, err = some k → k < 9 := inv.ok.err
  have hemp : emp ≤ 100 := inv.ok.emp
  have hlen : bs.length = blen := inv.len
  have hdat : (bs.drop start).take data.length = data := inv.dat
  haveI hfn : TFn Tryd.prog fid := ⟨hsp.body⟩
  show CW _ _ _ _ ((sb, scL E rb (.func (.func fid) #[] cap.toArray) mx tok (.slice (some ⟨bb, 0, none⟩) blen blen) start (start + data.length) err emp true false) :: (rb, rd.ho) :: (bb, bufO bs) :: T) _
  refine cw_cut (fun l' H' => SubE l' [(0, .pointer (some ⟨sb, 0, none⟩)), (33, .bool (decide (data ≠ [] ∨ err ≠ none)))] ∧ H' = (sb, scL E rb (.func (.func fid) #[] cap.toArray) mx tok (.slice (some ⟨bb, 0, none⟩) blen blen) start (start + data.length) err emp true false) :: (rb, rd.ho) :: (bb, bufO bs) :: T) ?_ ?_
  · refine cw_still mixed (by kernel_rfl) ?_
    refine sl_ev (ev_move rfl) rfl ?_; refine sl_ev (ev_nilP rfl) rfl ?_; refine sl_ev (ev_fld rfl) rfl ?_; refine sl_ev (ev_load rfl m0 rfl) rfl ?_; refine sl_ev (ev_move rfl) rfl ?_; refine sl_ev (ev_nilP rfl) rfl ?_; refine sl_ev (ev_fld rfl) rfl ?_; refine sl_ev (ev_load rfl m0 rfl) rfl ?_; refine sl_ev (ev_gt rfl rfl) rfl ?_; refine sl_ev (ev_move rfl) rfl ?_
    by_cases h1 : (start : Int) < ((start + data.length : Nat) : Int)
    · have hd : data ≠ [] := by intro h; subst h; simp at h1
      rw [decide_eq_true h1]
      (iterate 5 (refine sl_off rfl rfl rfl rfl rfl ?_)); refine sl_ev (ev_pick_t rfl rfl) rfl ?_; refine sl_nil ?_
      refine ⟨⟨rfl, ?_, trivial⟩, rfl⟩
      rw [decide_eq_true (.inl hd)]; rfl
    · have hd : data = [] := List.eq_nil_of_length_eq_zero (by omega)
      rw [decide_eq_false h1]
      refine sl_on rfl rfl rfl ?_; refine sl_ev (ev_move rfl) rfl ?_; refine sl_on rfl rfl rfl ?_; refine sl_ev (ev_nilP rfl) rfl ?_; refine sl_on rfl rfl rfl ?_; refine sl_ev (ev_fld rfl) rfl ?_; refine sl_on rfl rfl rfl ?_; refine sl_ev (ev_load rfl m0 rfl) rfl ?_; refine sl_on rfl rfl rfl ?_
      refine sl_ev (ev_neO (E := E) rfl) rfl ?_
      refine sl_ev (ev_pick_f rfl rfl) rfl ?_; refine sl_nil ?_
      refine ⟨⟨rfl, ?_, trivial⟩, rfl⟩
      simp only [hd, ne_eq, not_true_eq_false, false_or]; rfl
  rintro l' H' ⟨hl, rfl⟩
  refine CW.weak hl (cw_ifd rfl (fun hc => ?_) (fun hc => ?_))
  · unfold Scans at hsc
    rw [if_pos hc] at hsc
    simp only at hsc
    clear hl
    refine cw_seq ?_
    refine cw_mid 22 mixed (by kernel_rfl) rfl ?_
    refine sl_ev (ev_move rfl) rfl ?_; refine sl_ev (ev_nilP rfl) rfl ?_; refine sl_ev (ev_fld rfl) rfl ?_; refine sl_ev (ev_load rfl m0 rfl) rfl ?_; refine sl_ev (ev_move rfl) rfl ?_; refine sl_ev (ev_nilP rfl) rfl ?_; refine sl_ev (ev_fld rfl) rfl ?_; refine sl_ev (ev_load rfl m0 rfl) rfl ?_; refine sl_ev (ev_move rfl) rfl ?_; refine sl_ev (ev_nilP rfl) rfl ?_; refine sl_ev (ev_fld rfl) rfl ?_; refine sl_ev (ev_load rfl m0 rfl) rfl ?_; refine sl_ev (ev_move rfl) rfl ?_; refine sl_ev (ev_nilP rfl) rfl ?_; refine sl_ev (ev_fld rfl) rfl ?_; refine sl_ev (ev_load rfl m0 rfl) rfl ?_
    refine sl_ev (ev_slice rfl rfl rfl (by omega) (by omega) (by omega)) rfl ?_
    refine sl_ev (ev_move rfl) rfl ?_; refine sl_ev (ev_nilP rfl) rfl ?_; refine sl_ev (ev_fld rfl) rfl ?_; refine sl_ev (ev_load rfl m0 rfl) rfl ?_
    refine sl_ev (ev_neO (E := E) rfl) rfl (sl_nil ?_)
    have e1 : ((start + data.length : Nat) : Int).toNat - ((start : Nat) : Int).toNat = data.length := by omega
    rw [e1]
    have hoff : ((bcells bs).drop (if blen = ((start : Nat) : Int).toNat then 0 else 0 + ((start : Nat) : Int).toNat)).take data.length = bcells data := by
      split <;> rename_i hs
      · have : data.length = 0 := by simp at hs; omega
        rw [List.eq_nil_of_length_eq_zero this]; simp [bcells]
      · rw [bcells_drop, bcells_take]; simp only [Nat.zero_add, Int.toNat_natCast, hdat]
    have hoff2 : (if blen = ((start : Nat) : Int).toNat then 0 else 0 + ((start : Nat) : Int).toNat) + data.length ≤ (bcells bs).length := by
      rw [bcells_length, hlen]
      split <;> simp <;> omega
    refine ol_call2 (R := [(sb, scL E rb (.func (.func fid) #[] cap.toArray) mx tok (.slice (some ⟨bb, 0, none⟩) blen blen) start (start + data.length) err emp true false), (rb, rd.ho)]) rfl rfl rfl rfl
      (hsp.call s T bb _ _ (bcells bs) data (decide (err ≠ none)) inv.inv (by simpa using hc) hoff hoff2 (by simp; omega) (by omega)) (List.perm_append_comm (l₁ := [_, _])) ?_
    clear hoff hoff2 e1
    rintro v G' ⟨tv, T', rfl, rfl, hI', hkeep, hto⟩
    refine OL.perm (K := (sb, scL E rb (.func (.func fid) #[] cap.toArray) mx tok (.slice (some ⟨bb, 0, none⟩) blen blen) start (start + data.length) err emp true false) :: (rb, rd.ho) :: (bb, bufO bs) :: T') (List.perm_append_comm (l₂ := [_, _])) ?_
    have hans := hsp.err s data (decide (err ≠ none))
    have hold : TokV ((bb, bufO bs) :: T') tok := inv.tok.keep hkeep
    generalize step s data (decide (err ≠ none)) = ans at hsc hI' hto hans
    refine ol_nil ?_
    refine sl_ev (ev_move rfl) rfl ?_; (iterate 3 (refine sl_ev (ev_extract rfl rfl) rfl ?_)); (iterate 3 (refine sl_ev (ev_assign rfl) rfl ?_)); refine sl_nil ?_
    refine CW.weak (r := [(0, .pointer (some ⟨sb, 0, none⟩)), (3, .int .i64 ans.adv), (4, tv), (5, errO E ans.err)]) ⟨rfl, rfl, rfl, rfl, trivial⟩ ?_
    obtain ⟨adv, atok, aerr, ast⟩ := ans
    simp only at hsc hI' hto hans ⊢
    cases aerr with
    | some c =>
      have hc9 : c < 9 := hans c rfl
      simp only at hsc
      refine cw_seq ?_; refine cw_seq ?_; refine cw_region ?_; refine ol_ev (ev_move rfl) rfl ?_; refine ol_ev (ev_nenil_i rfl) rfl ?_; refine ol_nil ?_; refine cw_if_t rfl ?_; refine cw_seq ?_; refine cw_seq ?_; refine cw_region ?_; refine ol_ev (ev_move rfl) rfl ?_
      refine ol_ev (ev_loadW rfl hE.c6) rfl ?_
      refine ol_ev (ev_eqE hE (c := c) rfl rfl (Nat.ble_eq_true_of_le hc9) rfl) rfl (ol_nil (cw_ifd rfl (fun h6 => ?_) (fun h6 => ?_)))
      · subst h6
        rw [if_pos rfl] at hsc
        obtain ⟨hb, ht, hdn, hm⟩ := hsc
        cases atok with
        | none =>
          have hto' : tv = .slice none 0 0 := hto
          subst hto'
          refine cw_seq ?_; refine cw_region ?_; refine ol_ev (ev_move rfl) rfl ?_; refine ol_ev (ev_move rfl) rfl ?_; refine ol_ev (ev_nilP rfl) rfl ?_; refine ol_ev (ev_fld rfl) rfl ?_; refine ol_store rfl rfl rfl u0 rfl rfl ?_; refine ol_nil ?_; refine cw_seq ?_; refine cw_region ?_; refine ol_ev (ev_move rfl) rfl ?_; refine ol_ev (ev_nilP rfl) rfl ?_; refine ol_ev (ev_fld rfl) rfl ?_; refine ol_store rfl rfl rfl u0 rfl rfl ?_; refine ol_nil ?_; refine cw_seq ?_; refine cw_region ?_; refine ol_ev (ev_move rfl) rfl ?_; refine ol_ev (ev_nenil_s rfl) rfl ?_; refine ol_ev (ev_assign rfl) rfl ?_; refine ol_nil ?_; refine cw_ret ?_
          refine hret _ _ ⟨_, rfl, ?_, bb, bs, .slice none 0 0, T', ?_, ?_, ?_⟩
          · rw [hb]; rfl
          · rw [hm, hdn]; rfl
          · rw [hm]
            exact ⟨⟨hfit, hbig, inv.ok.rd, herr, hemp, inv.ok.mx⟩, hlen, hdat, hI', .inl rfl⟩
          · rw [hb]; intro h; cases h
        | some t =>
          obtain ⟨tb, toff, tcap, to, rfl, hto2, hto3, hto4⟩ := hto
          refine cw_seq ?_; refine cw_region ?_; refine ol_ev (ev_move rfl) rfl ?_; refine ol_ev (ev_move rfl) rfl ?_; refine ol_ev (ev_nilP rfl) rfl ?_; refine ol_ev (ev_fld rfl) rfl ?_; refine ol_store rfl rfl rfl u0 rfl rfl ?_; refine ol_nil ?_; refine cw_seq ?_; refine cw_region ?_; refine ol_ev (ev_move rfl) rfl ?_; refine ol_ev (ev_nilP rfl) rfl ?_; refine ol_ev (ev_fld rfl) rfl ?_; refine ol_store rfl rfl rfl u0 rfl rfl ?_; refine ol_nil ?_; refine cw_seq ?_; refine cw_region ?_; refine ol_ev (ev_move rfl) rfl ?_; refine ol_ev (ev_nenil_s rfl) rfl ?_; refine ol_ev (ev_assign rfl) rfl ?_; refine ol_nil ?_; refine cw_ret ?_
          refine hret _ _ ⟨_, rfl, ?_, bb, bs, .slice (some ⟨tb, toff, none⟩) t.length tcap, T', ?_, ?_, ?_⟩
          · rw [hb]; rfl
          · rw [hm, hdn]; rfl
          · rw [hm]
            exact ⟨⟨hfit, hbig, inv.ok.rd, herr, hemp, inv.ok.mx⟩, hlen, hdat, hI', .inr ⟨t, tb, toff, tcap, to, rfl, hto2, hto3, hto4⟩⟩
          · rw [ht]; exact fun _ => ⟨tb, toff, tcap, to, rfl, hto2, hto3, hto4⟩
      · rw [if_neg h6] at hsc
        obtain ⟨_, hb, hdn, hm⟩ := hsc
        refine cw_skip ?_; refine cw_seq ?_; refine cw_region ?_; refine ol_ev (ev_move rfl) rfl ?_; refine ol_ev (ev_move rfl) rfl ?_
        have hse := setErr_ct hE ⟨rb, .func (.func fid) #[] cap.toArray, mx, tok, .slice (some ⟨bb, 0, none⟩) blen blen, start, start + data.length, err, emp, true, false⟩ sb c herr
        refine ol_call2 (R := (rb, rd.ho) :: (bb, bufO bs) :: T') (cap := []) rfl rfl rfl rfl hse (List.Perm.refl _) ?_
        rintro v G' rfl
        refine ol_nil ?_; refine cw_seq ?_; refine cw_region ?_; refine ol_ev (ev_assign rfl) rfl ?_; refine ol_nil ?_; refine cw_ret ?_
        refine hret _ _ ⟨_, rfl, ?_, bb, bs, tok, T', ?_, ?_, ?_⟩
        · rw [hb]
        · rw [hm, hdn]; rfl
        · rw [hm]
          exact ⟨⟨hfit, hbig, inv.ok.rd, fun k hk => setE_lt herr hc9 hk, hemp, inv.ok.mx⟩, hlen, hdat, hI', hold⟩
        · rw [hb]; intro h; cases h
    | none =>
      simp only at hsc
      refine cw_seq ?_; refine cw_seq ?_; refine cw_region ?_; refine ol_ev (ev_move rfl) rfl ?_; refine ol_ev (ev_nenil_n rfl) rfl ?_; refine ol_nil ?_; refine cw_if_f rfl ?_; refine cw_skip ?_; refine cw_seq ?_; refine cw_seq ?_; refine cw_region ?_; refine ol_ev (ev_move rfl) rfl ?_; refine ol_ev (ev_move rfl) rfl ?_
      have hadv := advance_ct hE ⟨rb, .func (.func fid) #[] cap.toArray, mx, tok, .slice (some ⟨bb, 0, none⟩) blen blen, start, start + data.length, err, emp, true, false⟩ sb adv herr (by simp) (by simp; omega)
      refine ol_call2 (R := (rb, rd.ho) :: (bb, bufO bs) :: T') (cap := []) rfl rfl rfl rfl hadv (List.Perm.refl _) ?_
      rintro v G' (⟨h0, rfl, rfl⟩ | ⟨h0, h1, rfl, rfl⟩ | ⟨h0, h1, rfl, rfl⟩)
      · rw [if_pos h0] at hsc
        obtain ⟨hb, hdn, hm⟩ := hsc
        refine ol_ev (ev_not rfl) rfl ?_; refine ol_nil ?_; refine cw_if_t rfl ?_; refine cw_seq ?_; refine cw_region ?_; refine ol_ev (ev_assign rfl) rfl ?_; refine ol_nil ?_; refine cw_ret ?_
        refine hret _ _ ⟨_, rfl, ?_, bb, bs, tok, T', ?_, ?_, ?_⟩
        · rw [hb]
        · rw [hm, hdn]; rfl
        · rw [hm]
          exact ⟨⟨hfit, hbig, inv.ok.rd, fun k hk => setE_lt herr (by omega) hk, hemp, inv.ok.mx⟩, hlen, hdat, hI', hold⟩
        · rw [hb]; intro h; cases h
      · simp only at h1
        rw [if_neg (by omega), if_pos (by omega)] at hsc
        obtain ⟨hb, hdn, hm⟩ := hsc
        refine ol_ev (ev_not rfl) rfl ?_; refine ol_nil ?_; refine cw_if_t rfl ?_; refine cw_seq ?_; refine cw_region ?_; refine ol_ev (ev_assign rfl) rfl ?_; refine ol_nil ?_; refine cw_ret ?_
        refine hret _ _ ⟨_, rfl, ?_, bb, bs, tok, T', ?_, ?_, ?_⟩
        · rw [hb]
        · rw [hm, hdn]; rfl
        · rw [hm]
          exact ⟨⟨hfit, hbig, inv.ok.rd, fun k hk => setE_lt herr (by omega) hk, hemp, inv.ok.mx⟩, hlen, hdat, hI', hold⟩
        · rw [hb]; intro h; cases h
      · simp only at h1
        rw [if_neg (by omega), if_neg (by omega)] at hsc
        obtain ⟨k, rfl⟩ := Int.eq_ofNat_of_zero_le h0
        have hk : k ≤ data.length := by omega
        have hl1 : (data.drop k).length = data.length - k := by simp
        have hse1 : start + k + (data.drop k).length = start + data.length := by omega
        have hdat1 : (bs.drop (start + k)).take (data.drop k).length = data.drop k := by
          rw [hl1, ← List.drop_drop, ← List.drop_take, hdat]
        have hm1 : ∀ em, em ≤ 100 → MOk ps W (⟨ast, data.drop k, start + k, blen, mx, rd, err, em⟩ : M σ) := fun em hem =>
          ⟨by show start + k + (data.drop k).length ≤ blen; omega, hbig, inv.ok.rd, herr, hem, inv.ok.mx⟩
        have hH : ∀ tk em, (sb, scL E rb (.func (.func fid) #[] cap.toArray) mx tk (.slice (some ⟨bb, 0, none⟩) blen blen) (start + k) (start + data.length) err em true false) :: (rb, rd.ho) :: (bb, bufO bs) :: T' =
            scanH E sb rb (.func (.func fid) #[] cap.toArray) (⟨ast, data.drop k, start + k, blen, mx, rd, err, em⟩ : M σ) bb bs tk T' false := fun tk em => by
          show _ = (sb, scL E rb _ mx tk _ (start + k) (start + k + (data.drop k).length) err em true false) :: _
          rw [hse1]
        simp only [Int.toNat_natCast] at hsc
        refine OL.weak (r := [(0, .pointer (some ⟨sb, 0, none⟩)), (3, .int .i64 (k : Int)), (4, tv), (80, .bool true)]) ⟨rfl, rfl, rfl, rfl, trivial⟩ ?_
        show OL _ _ _ _ _ ((sb, scL E rb (.func (.func fid) #[] cap.toArray) mx tok (.slice (some ⟨bb, 0, none⟩) blen blen) (start + k) (start + data.length) err emp true false) :: (rb, rd.ho) :: (bb, bufO bs) :: T') _
        cases atok with
        | none =>
          have hto' : tv = .slice none 0 0 := hto
          subst hto'
          refine ol_ev (ev_not rfl) rfl ?_; refine ol_nil ?_; refine cw_if_f rfl ?_; refine cw_skip ?_; refine cw_seq ?_; refine cw_region ?_; refine ol_ev (ev_move rfl) rfl ?_; refine ol_ev (ev_move rfl) rfl ?_; refine ol_ev (ev_nilP rfl) rfl ?_; refine ol_ev (ev_fld rfl) rfl ?_; refine ol_store rfl rfl rfl u0 rfl rfl ?_; refine ol_nil ?_; refine cw_seq ?_; refine cw_region ?_; refine ol_ev (ev_move rfl) rfl ?_; refine ol_ev (ev_nenil_s rfl) rfl ?_; refine ol_nil ?_; refine cw_if_f rfl ?_; refine cw_skip ?_
          exact ⟨⟨rfl, trivial⟩, _, _, _, hH (.slice none 0 0) emp, hsc, hm1 emp hemp, hlen, hdat1, hI', .inl rfl⟩
        | some t =>
          obtain ⟨tb, toff, tcap, to, rfl, hto2, hto3, hto4⟩ := hto
          obtain ⟨hb, ht, hdn, hm⟩ := hsc
          have htk : TokO ((bb, bufO bs) :: T') (.slice (some ⟨tb, toff, none⟩) t.length tcap) (some t) := ⟨tb, toff, tcap, to, rfl, hto2, hto3, hto4⟩
          have fin : ∀ em, em ≤ 100 → e.m = (⟨ast, data.drop k, start + k, blen, mx, rd, err, em⟩ : M σ) → ∀ l, look l 2 = some (.bool true) →
              Q .ret l ((sb, scL E rb (.func (.func fid) #[] cap.toArray) mx (.slice (some ⟨tb, toff, none⟩) t.length tcap) (.slice (some ⟨bb, 0, none⟩) blen blen) (start + k) (start + data.length) err em true false) :: (rb, rd.ho) :: (bb, bufO bs) :: T') := fun em hem hme l hl2 => by
            refine hret _ _ ⟨_, hl2, by rw [hb], bb, bs, .slice (some ⟨tb, toff, none⟩) t.length tcap, T', ?_, ?_, ?_⟩
            · rw [hme, hdn]; exact hH _ em
            · rw [hme]; exact ⟨hm1 em hem, hlen, hdat1, hI', htk.v⟩
            · rw [ht]; exact fun _ => htk
          refine ol_ev (ev_not rfl) rfl ?_; refine ol_nil ?_; refine cw_if_f rfl ?_; refine cw_skip ?_; refine cw_seq ?_; refine cw_region ?_; refine ol_ev (ev_move rfl) rfl ?_; refine ol_ev (ev_move rfl) rfl ?_; refine ol_ev (ev_nilP rfl) rfl ?_; refine ol_ev (ev_fld rfl) rfl ?_; refine ol_store rfl rfl rfl u0 rfl rfl ?_; refine ol_nil ?_; refine cw_seq ?_; refine cw_region ?_; refine ol_ev (ev_move rfl) rfl ?_; refine ol_ev (ev_nenil_s rfl) rfl ?_; refine ol_nil ?_; refine cw_if_t rfl ?_; refine cw_seq ?_; refine cw_seq ?_; refine cw_region ?_; refine ol_ev (ev_move rfl) rfl ?_; refine ol_ev (ev_nilP rfl) rfl ?_; refine ol_ev (ev_fld rfl) rfl ?_; refine ol_ev (ev_load rfl m0 rfl) rfl ?_
          refine ol_ev (ev_eqO (E := E) rfl) rfl ?_
          by_cases he0 : err = none
          · rw [decide_eq_true he0]
            rw [if_pos (.inl he0)] at hm
            refine ol_ev (ev_move rfl) rfl ?_; refine ol_off rfl rfl rfl rfl rfl ?_; refine ol_off rfl rfl rfl rfl rfl ?_; refine ol_ev (ev_pick_t rfl rfl) rfl ?_; refine ol_nil ?_; refine cw_if_t rfl ?_; refine cw_region ?_; refine ol_ev (ev_move rfl) rfl ?_; refine ol_ev (ev_nilP rfl) rfl ?_; refine ol_ev (ev_fld rfl) rfl ?_; refine ol_store rfl rfl rfl u0 rfl rfl ?_; refine ol_nil ?_; refine cw_seq ?_; refine cw_region ?_; refine ol_ev (ev_assign rfl) rfl ?_; refine ol_nil ?_; refine cw_ret ?_
            exact fin 0 (by omega) hm _ rfl
          · rw [decide_eq_false he0]
            refine ol_ev (ev_move rfl) rfl ?_; refine ol_on rfl rfl rfl ?_; refine ol_ev (ev_move rfl) rfl ?_; refine ol_on rfl rfl rfl ?_; refine ol_ev (ev_gt rfl rfl) rfl ?_; refine ol_ev (ev_pick_f rfl rfl) rfl ?_; refine ol_nil ?_
            by_cases hk0 : (0 : Int) < (k : Int)
            · rw [decide_eq_true hk0]
              rw [if_pos (.inr hk0)] at hm
              refine cw_if_t rfl ?_; refine cw_region ?_; refine ol_ev (ev_move rfl) rfl ?_; refine ol_ev (ev_nilP rfl) rfl ?_; refine ol_ev (ev_fld rfl) rfl ?_; refine ol_store rfl rfl rfl u0 rfl rfl ?_; refine ol_nil ?_; refine cw_seq ?_; refine cw_region ?_; refine ol_ev (ev_assign rfl) rfl ?_; refine ol_nil ?_; refine cw_ret ?_
              exact fin 0 (by omega) hm _ rfl
            · rw [decide_eq_false hk0]
              rw [if_neg (by intro h; rcases h with h | h; exact he0 h; exact hk0 h)] at hm
              obtain ⟨hem, hm⟩ := hm
              refine cw_if_f rfl ?_; refine cw_seq ?_; refine cw_region ?_; refine ol_ev (ev_move rfl) rfl ?_; refine ol_ev (ev_nilP rfl) rfl ?_; refine ol_ev (ev_fld rfl) rfl ?_; refine ol_ev (ev_load rfl m0 rfl) rfl ?_; (refine ol_ev (ev_add rfl rfl ?_) rfl ?_; (constructor <;> omega)); refine ol_ev (ev_nilP rfl) rfl ?_; refine ol_ev (ev_fld rfl) rfl ?_; refine ol_store rfl rfl rfl u0 rfl rfl ?_; refine ol_nil ?_; refine cw_seq ?_; refine cw_region ?_; refine ol_ev (ev_move rfl) rfl ?_; refine ol_ev (ev_nilP rfl) rfl ?_; refine ol_ev (ev_fld rfl) rfl ?_; refine ol_ev (ev_load rfl m0 rfl) rfl ?_; refine ol_ev (ev_gt rfl rfl) rfl ?_; refine ol_nil ?_
              refine cw_ifd rfl (fun h => by omega) (fun h => ?_)
              refine cw_skip ?_; refine cw_seq ?_; refine cw_region ?_; refine ol_ev (ev_assign rfl) rfl ?_; refine ol_nil ?_; refine cw_ret ?_
              exact fin (emp + 1) (by omega) hm _ rfl
  · clear hl
    refine cw_skip ?_
    refine ⟨⟨rfl, trivial⟩, _, _, _, rfl, ?_, inv⟩
    unfold Scans at hsc
    rw [if_neg hc] at hsc
    exact hsc
end
end Go.HE
