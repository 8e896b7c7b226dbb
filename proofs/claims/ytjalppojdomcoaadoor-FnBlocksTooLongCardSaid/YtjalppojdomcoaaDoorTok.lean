/- All tokens of a scanner, by contracts. Conditions: the errors are as start-up lays them; the split function meets its contract; the model's relation says how the calls of Scan end. -/
import Derived.Test.YtjalppojdomcoaaDoorScan4
set_option maxRecDepth 100000
set_option maxHeartbeats 4000000
namespace Go.HE
open Go.RowKit Go.Proofs

theorem OL.less {P : Program} {C : Cx} {ops : Array Oper} {rest : List Oper} {l : Env} {H K : Heap} {Q : Exit → Env → Heap → Prop} (hp : K.Sublist H) (h : OL P C ops rest l K Q) : OL P C ops rest l H Q :=
  ⟨fun a w hs hw => h.out a w hs (St.less hw hp)⟩

section
variable {W : World} {E : Nat → Addr} {σ : Type} {fid : Nat} {cap : List Value} {step : σ → List UInt8 → Bool → Ans σ} {I : σ → Heap → Prop}

/-- A scanner between two calls of Scan. -/
def Ready (W : World) (E : Nat → Addr) (ps : List Int) (I : σ → Heap → Prop) (sb rb : Nat) (sv : Value) (m : M σ) (dn : Bool) (H : Heap) : Prop :=
  (∃ bb bs tok T called, H = (sb, scL E rb sv m.mx tok (.slice (some ⟨bb, 0, none⟩) m.blen m.blen) m.start (m.start + m.data.length) m.err m.emp called dn) :: (rb, m.rd.ho) :: (bb, bufO bs) :: T ∧ Inv W ps I m bb bs tok T) ∨
  (dn = false ∧ ∃ T called, H = nilH E sb rb sv m called T ∧ (m.data = [] ∧ m.start = 0 ∧ m.blen = 0 ∧ m.err = none ∧ m.emp = 0 ∧ 0 < m.mx) ∧ MOk ps W m ∧ I m.s T)

theorem ready_scan_ct (hE : Errs W E) (hsp : SplitOk W E fid cap step I) (ps : List Int) (n : Nat) (m : M σ) (e : End σ) (sb rb : Nat) (H : Heap) (hsc : Scans step ps n m e) (hr : Ready W E ps I sb rb (.func (.func fid) #[] cap.toArray) m false H) :
    Ct Tryd.prog W 34 #[.pointer (some ⟨sb, 0, none⟩)] H (Left' W E ps I sb rb (.func (.func fid) #[] cap.toArray) e) := by
  rcases hr with ⟨bb, bs, tok, T, called, rfl, inv⟩ | ⟨_, T, called, rfl, hm, hok, hI⟩
  · exact scan_ct hE hsp ps n m e sb rb bb bs tok T called hsc inv
  · exact scan_nil_ct hE hsp ps n m e sb rb T called hsc hm hok hI

theorem ready_done_ct (ps : List Int) (m : M σ) (sb rb : Nat) (sv : Value) (H : Heap) (hr : Ready W E ps I sb rb sv m true H) :
    Ct Tryd.prog W 34 #[.pointer (some ⟨sb, 0, none⟩)] H (fun v H' => v = .bool false ∧ H' = H) := by
  rcases hr with ⟨bb, bs, tok, T, called, rfl, inv⟩ | ⟨h, _⟩
  · exact scan_done_ct ⟨rb, sv, m.mx, tok, _, m.start, m.start + m.data.length, m.err, m.emp, called, true⟩ sb _ rfl
  · cases h

theorem Left'.ready {ps : List Int} {sb rb : Nat} {sv : Value} {e : End σ} {v : Value} {H : Heap} (h : Left' W E ps I sb rb sv e v H) : Ready W E ps I sb rb sv e.m e.dn H := by
  obtain ⟨_, bb, bs, tok, T, rfl, inv, _⟩ := h
  exact .inl ⟨bb, bs, tok, T, true, rfl, inv⟩

/-- The tokens that the calls of Scan make, and the error that they leave. -/
def Toks (step : σ → List UInt8 → Bool → Ans σ) (ps : List Int) : Nat → M σ → Bool → List (List UInt8) → Option Nat → Prop
  | 0, _, _, _, _ => False
  | n + 1, m, dn, ts, err => (dn = true ∧ ts = [] ∧ err = m.err) ∨
      (dn = false ∧ ∃ k e, Scans step ps k m e ∧ ((e.b = false ∧ ts = [] ∧ err = e.m.err) ∨ ∃ t r, e.b = true ∧ e.tok = some t ∧ ts = t :: r ∧ Toks step ps n e.m e.dn r err))

/-- A block of strings. -/
def strO (ts : List (List UInt8)) (sp : List Value) : HO := ⟨ts.map str ++ sp, 9, (0, 0)⟩

theorem tokens_ct (hE : Errs W E) (hsp : SplitOk W E fid cap step I) (ps : List Int) (n : Nat) (m : M σ) (dn : Bool) (ts : List (List UInt8)) (err : Option Nat) (sb rb : Nat) (H : Heap)
    (ht : Toks step ps n m dn ts err) (hr : Ready W E ps I sb rb (.func (.func fid) #[] cap.toArray) m dn H) (hlen : ts.length * 16 ≤ 140737488355328) :
    Ct Tryd.prog W 29 #[.pointer (some ⟨sb, 0, none⟩)] H
      (fun v H' => ∃ b sp, v = .tuple #[.slice (some ⟨b, 0, none⟩) ts.length (ts.length + sp.length), .int .i64 (codeOf (if err = some 0 then none else err))] ∧ (b, strO ts sp) ∈ H') := by
  refine ct_of_cw (vs := [_]) Tryd.func29 rfl rfl fun w1 => ?_
  refine cw_seq ?_; refine cw_region ?_; refine ol_ev (ev_assign rfl) rfl ?_; refine ol_ev (ev_assign rfl) rfl ?_; refine ol_nil ?_; refine cw_seq ?_; refine cw_region ?_
  refine ol_slice0 rfl fun ob => ?_
  refine ol_ev (ev_assign rfl) rfl (ol_nil ?_)
  refine CW.weak (r := [(0, .pointer (some ⟨sb, 0, none⟩)), (4, .slice (some ⟨ob, 0, none⟩) 0 0)]) ⟨rfl, rfl, trivial⟩ ?_
  refine CW.perm (List.perm_append_singleton _ _).symm ?_
  refine cw_cut (fun l' H' => ∃ ob sp, ∃ s : Sc, ∃ T, SubE l' [(0, .pointer (some ⟨sb, 0, none⟩)), (4, .slice (some ⟨ob, 0, none⟩) ts.length (ts.length + sp.length))] ∧ H' = ((sb, s.ho E) :: T) ++ [(ob, strO ts sp)] ∧ s.err = err ∧ ∀ k, err = some k → k < 9) ?_ ?_
  · refine cw_block ?_
    refine cw_loop (σ := Nat × M σ × Bool × List (List UInt8) × List (List UInt8) × Nat × List Value × Heap)
      (fun g => [(0, .pointer (some ⟨sb, 0, none⟩)), (4, .slice (some ⟨g.2.2.2.2.2.1, 0, none⟩) g.2.2.2.1.length (g.2.2.2.1.length + g.2.2.2.2.2.2.1.length))])
      (fun g => g.2.2.2.2.2.2.2 ++ [(g.2.2.2.2.2.1, strO g.2.2.2.1 g.2.2.2.2.2.2.1)])
      (fun g => Toks step ps g.1 g.2.1 g.2.2.1 g.2.2.2.2.1 err ∧ Ready W E ps I sb rb (.func (.func fid) #[] cap.toArray) g.2.1 g.2.2.1 g.2.2.2.2.2.2.2 ∧ g.2.2.2.1 ++ g.2.2.2.2.1 = ts) (fun g => g.1)
      (n, m, dn, [], ts, ob, [], H) ⟨ht, hr, rfl⟩ (fun _ h => h) rfl ?_
    rintro ⟨n, m, dn, ds, r, ob, sp, H⟩ ⟨ht, hr, hts⟩
    simp only at ht hr hts ⊢
    cases n with
    | zero => exact ht.elim
    | succ n =>
      rcases ht with ⟨rfl, rfl, rfl⟩ | ⟨rfl, k, e, hsc, hend⟩
      · refine cw_seq ?_; refine cw_seq ?_; refine cw_region ?_; refine ol_ev (ev_move rfl) rfl ?_
        refine ol_call1 (G := H) (R := [(ob, strO ds sp)]) (cap := []) rfl rfl rfl (ready_done_ct ps m sb rb _ H hr) (List.Perm.refl _) ?_
        rintro v G' ⟨rfl, rfl⟩
        refine ol_nil ?_; refine cw_if_f rfl ?_; refine cw_exit ?_
        rw [List.append_nil] at hts
        subst hts
        rcases hr with ⟨bb, bs, tok, T, called, rfl, inv⟩ | ⟨h, _⟩
        · exact ⟨ob, sp, ⟨rb, _, m.mx, tok, _, m.start, m.start + m.data.length, m.err, m.emp, called, true⟩, _, ⟨rfl, rfl, trivial⟩, rfl, rfl, inv.ok.err⟩
        · cases h
      · refine cw_seq ?_; refine cw_seq ?_; refine cw_region ?_; refine ol_ev (ev_move rfl) rfl ?_
        refine ol_call1 (G := H) (R := [(ob, strO ds sp)]) (cap := []) rfl rfl rfl (ready_scan_ct hE hsp ps k m e sb rb H hsc hr) (List.Perm.refl _) ?_
        rintro v G' hleft
        have hrd := hleft.ready
        obtain ⟨rfl, bb, bs, tok, T, rfl, inv, htok⟩ := hleft
        rcases hend with ⟨hb, rfl, rfl⟩ | ⟨t, r', hb, het, rfl, hto⟩
        · rw [hb]
          refine ol_nil ?_; refine cw_if_f rfl ?_; refine cw_exit ?_
          rw [List.append_nil] at hts
          subst hts
          exact ⟨ob, sp, ⟨rb, _, e.m.mx, tok, _, e.m.start, e.m.start + e.m.data.length, e.m.err, e.m.emp, true, e.dn⟩, _, ⟨rfl, rfl, trivial⟩, rfl, rfl, inv.ok.err⟩
        · have htk : TokAt ((bb, bufO bs) :: T) tok t := by have := htok hb; rw [het] at this; exact this
          have htk2 : TokAt ((rb, e.m.rd.ho) :: (bb, bufO bs) :: T) tok t := by
            obtain ⟨b, off, c, o, h1, h2, h3, h4⟩ := htk
            exact ⟨b, off, c, o, h1, List.mem_cons_of_mem _ h2, h3, h4⟩
          rw [hb]
          refine ol_nil ?_; refine cw_if_t rfl ?_; refine cw_skip ?_; refine cw_block ?_; refine cw_region ?_; refine ol_ev (ev_move rfl) rfl ?_; refine ol_ev (ev_move rfl) rfl ?_
          refine ol_call1 (R := [(ob, strO ds sp)]) (cap := []) rfl rfl rfl (Text_ct (E := E) ⟨rb, .func (.func fid) #[] cap.toArray, e.m.mx, tok, .slice (some ⟨bb, 0, none⟩) e.m.blen e.m.blen, e.m.start, e.m.start + e.m.data.length, e.m.err, e.m.emp, true, e.dn⟩ sb ((rb, e.m.rd.ho) :: (bb, bufO bs) :: T) t htk2) (List.Perm.refl _) ?_
          rintro v G' ⟨rfl, rfl⟩
          refine ol_slice1 rfl rfl rfl rfl fun b1 => ?_
          have hl2 : ds.length + 1 ≤ ts.length := by rw [← hts]; simp
          refine OL.perm (K := (b1, ⟨[str t], 9, (0, 0)⟩) :: (ob, strO ds sp) :: scanH E sb rb (.func (.func fid) #[] cap.toArray) e.m bb bs tok T e.dn) ((List.perm_append_singleton _ _).cons _) ?_
          refine ol_append (xs := ds.map str) (sp := sp) (ys := [str t]) rfl rfl (fun _ _ => r1) m0 (by simp) (by simp) rfl rfl ?_ rfl ?_ ?_ rfl ?_
          · intro u hu
            simp only [List.mem_singleton] at hu
            subst hu; rfl
          · omega
          · omega
          intro b' sp'
          refine OL.less (List.sublist_cons_self _ _) ?_
          refine OL.perm (List.perm_append_singleton _ _).symm ?_
          refine ol_ev (ev_assign rfl) rfl ?_; refine ol_nil ?_
          refine ⟨(n, e.m, e.dn, ds ++ [t], r', b', sp', _), ⟨hto, hrd, by simpa using hts⟩, ?_, ?_, Nat.lt_succ_self n⟩
          · refine ⟨rfl, ?_, trivial⟩
            show some (Value.slice _ _ _) = some (Value.slice _ _ _)
            simp
          · show _ ++ [_] = _ ++ [_]
            simp [strO]; rfl
  · rintro l' H' ⟨ob, sp, s, T, hl, rfl, rfl, herr⟩
    refine CW.weak hl ?_
    clear hl
    refine cw_seq ?_; refine cw_region ?_; refine ol_ev (ev_move rfl) rfl ?_; refine ol_ev (ev_move rfl) rfl ?_
    refine ol_call1 (G := [(sb, s.ho E)]) (R := T ++ [(ob, strO ts sp)]) (cap := []) rfl rfl rfl (Err_ct hE s sb herr) (List.Perm.refl _) ?_
    rintro v G' ⟨rfl, rfl⟩
    refine ol_call1 (G := []) (cap := []) rfl rfl rfl (code_ct hE (if s.err = some 0 then none else s.err) (fun k hk => ?_)) (List.Perm.refl _) ?_
    · split at hk
      · cases hk
      · exact herr k hk
    rintro v G' ⟨rfl, rfl⟩
    refine ol_ev (ev_assign rfl) rfl ?_; refine ol_ev (ev_assign rfl) rfl ?_; refine ol_nil ?_; refine cw_ret ?_
    exact ⟨_, res2 rfl rfl rfl, ob, sp, rfl, by simp⟩
end
end Go.HE
