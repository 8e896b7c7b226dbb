/- A reader that fails at the end: the tokens are those of the text, and the error is the reader's: the walk. Conditions: those of the contracts. -/
import Derived.Test.YtkaomlklllinlaaDoorPlain
set_option maxRecDepth 100000
set_option maxHeartbeats 4000000
namespace Go.HE
open Go.RowKit Go.Proofs
section
variable {σ : Type} {step : σ → List UInt8 → Bool → Ans σ}
theorem rdErr_brk {r : Rd} (h : r.brk = true) (ps : List Int) (len : Nat) : rdErr r ps len = none ∨ rdErr r ps len = some 8 := by
  unfold rdErr
  rw [h]
  split
  · exact .inl rfl
  · exact .inr rfl
/-- One call of Scan with a reader that fails: where it tells no token the error is the reader's, or the token is too long. -/
theorem late_scans (hso : StepOk step) (hlate : Late step) (ps : List Int) : ∀ (n : Nat) (m : M σ) (e : End σ), Scans step ps n m e → (m.err = none ∨ m.err = some 8) → m.rd.brk = true →
    e.m.rd.brk = true ∧ (e.b = true → e.dn = false → e.m.err = none ∨ e.m.err = some 8) ∧ (e.b = false ∨ e.dn = true → e.m.err = some 8 ∨ e.m.err = some 2)
  | 0, _, _, h, _, _ => h.elim
  | n + 1, m, e, h, he, hb => by
    have hrest : ∀ m1 : M σ, Rest ps (Scans step ps n) m1 e → (m1.err = none ∨ m1.err = some 8) → m1.rd.brk = true →
        e.m.rd.brk = true ∧ (e.b = true → e.dn = false → e.m.err = none ∨ e.m.err = some 8) ∧ (e.b = false ∨ e.dn = true → e.m.err = some 8 ∨ e.m.err = some 2) := fun m1 h1 he1 hb1 => by
      have hsh : (shiftM m1).rd = m1.rd := by unfold shiftM; split <;> rfl
      unfold Rest at h1
      split at h1
      · rename_i hne
        obtain ⟨e1, e2, e3⟩ := h1
        rw [e3]
        have h8 : m1.err = some 8 := by rcases he1 with h | h; exact absurd h hne; exact h
        exact ⟨hb1, (fun h => by rw [e1] at h; cases h), fun _ => .inl h8⟩
      split at h1
      · split at h1
        · obtain ⟨e1, e2, e3⟩ := h1
          rw [e3]
          exact ⟨by show (shiftM m1).rd.brk = true; rw [hsh]; exact hb1, (fun h => by rw [e1] at h; cases h), fun _ => .inr rfl⟩
        · exact late_scans hso hlate ps n _ e h1.2 (rdErr_brk (r := (growM (shiftM m1)).rd) (by show (shiftM m1).rd.brk = true; rw [hsh]; exact hb1) ps _) (by show (shiftM m1).rd.brk = true; rw [hsh]; exact hb1)
      · exact late_scans hso hlate ps n _ e h1 (rdErr_brk (r := (shiftM m1).rd) (by rw [hsh]; exact hb1) ps _) (by show (shiftM m1).rd.brk = true; rw [hsh]; exact hb1)
    unfold Scans at h
    split at h
    · rename_i hc
      rcases he with hn | h8
      · have hd : m.data ≠ [] := by rcases hc with h | h; exact h; exact absurd hn h
        rw [show decide (m.err ≠ none) = false by simp [hn]] at h
        obtain ⟨l1, l2⟩ := hlate m.s m.data
        have htok := hso.tok m.s m.data false
        rw [l1] at h
        simp only at h
        split at h
        · rename_i hneg
          cases ht : (step m.s m.data false).tok with
          | none => have := (l2 ht).1; omega
          | some t => have := (htok t (.inl hd) ht).2.1; omega
        split at h
        · rename_i hfar
          cases ht : (step m.s m.data false).tok with
          | none => have := (l2 ht).2; omega
          | some t => have := (htok t (.inl hd) ht).2.2.1; omega
        split at h
        · obtain ⟨e1, e2, e3, e4⟩ := h
          rw [if_pos (.inl hn)] at e4
          rw [e4]
          exact ⟨hb, fun _ _ => .inl hn, (fun h => by rw [e1, e3] at h; rcases h with h | h <;> cases h)⟩
        · exact hrest _ h (.inl hn) hb
      · have hset : ∀ c, setE m.err c = some 8 := fun c => by rw [h8]; simp [setE]
        split at h
        · split at h
          · obtain ⟨e1, e2, e3, e4⟩ := h
            rw [e4]
            exact ⟨hb, fun _ _ => .inr h8, fun _ => .inl h8⟩
          · obtain ⟨_, e1, e2, e3⟩ := h
            rw [e3]
            exact ⟨hb, fun _ _ => .inr (hset _), fun _ => .inl (hset _)⟩
        · split at h
          · obtain ⟨e1, e2, e3⟩ := h
            rw [e3]
            exact ⟨hb, fun _ _ => .inr (hset _), fun _ => .inl (hset _)⟩
          split at h
          · obtain ⟨e1, e2, e3⟩ := h
            rw [e3]
            exact ⟨hb, fun _ _ => .inr (hset _), fun _ => .inl (hset _)⟩
          simp only at h
          split at h
          · obtain ⟨e1, e2, e3, e4⟩ := h
            split at e4
            · rw [e4]
              exact ⟨hb, fun _ _ => .inr h8, fun _ => .inl h8⟩
            · rw [e4.2]
              exact ⟨hb, fun _ _ => .inr h8, fun _ => .inl h8⟩
          · exact hrest _ h (.inr h8) hb
    · exact hrest m h he hb
theorem late_toks (hso : StepOk step) (hlate : Late step) (ps : List Int) : ∀ (n : Nat) (m : M σ) (dn : Bool) (ts : List (List UInt8)) (x : Option Nat), Toks step ps n m dn ts x → (dn = false → m.err = none ∨ m.err = some 8) → (dn = true → m.err = some 8 ∨ m.err = some 2) → m.rd.brk = true → x = some 8 ∨ x = some 2
  | 0, _, _, _, _, h, _, _, _ => h.elim
  | n + 1, m, dn, ts, x, h, h1, h2, h3 => by
    rcases h with ⟨hd, _, rfl⟩ | ⟨hd, k, e, hs, h⟩
    · exact h2 hd
    · obtain ⟨e1, e2, e3⟩ := late_scans hso hlate ps k m e hs (h1 hd) h3
      rcases h with ⟨hb, _, rfl⟩ | ⟨t, r, hb, _, _, h⟩
      · exact e3 (.inl hb)
      · exact late_toks hso hlate ps n e.m e.dn r x h (e2 hb) (fun h => e3 (.inr h)) e1
end
theorem start_err {σ : Type} {s : σ} {text : List UInt8} {pv : Value} {tog brk : Bool} {c most : Int} : (startM s text pv tog brk c most).err = none := by
  unfold startM; split <;> rfl
/-- All tokens of a new scanner whose reader fails. -/
theorem brk_toks {σ : Type} {step : σ → List UInt8 → Bool → Ans σ} {Q : σ → List UInt8 → Oc σ → Prop} {c most : Int} (hso : StepOk step) (hlate : Late step) (hg : Good step Q (limitOf c most).toNat) (ps : List Int) {s : σ} {text : List UInt8} {ts : List (List UInt8)} {err : Option Nat} (hr : Run Q s text ts err) (pv : Value) (tog : Bool) (htl : text.length ≤ 1099511627776) (he : OkE err) :
    ∃ n, Toks step ps n (startM s text pv tog true c most) false ts (some 8) := by
  obtain ⟨e1, e2, e3⟩ := start_rest (s := s) (text := text) (pv := pv) (tog := tog) (brk := true) (c := c) (most := most)
  obtain ⟨n, x, htk, y, hy, hx⟩ := toks_of hg ps hr (startM s text pv tog true c most) (start_mi htl) e2 e1
  have hz : endE (startM s text pv tog true c most).rd = 8 := by unfold endE; rw [e3]; rfl
  rw [hz] at hy
  have h8 : x = some 8 := by
    rcases late_toks hso hlate ps n _ false ts x htk (fun _ => .inl start_err) (fun h => by cases h) e3 with h | h
    · exact h
    · subst h
      rcases hx with ⟨_, rfl⟩ | ⟨c', rfl, hx⟩
      · rcases hy with h | h <;> cases h
      · have h2 : c' = 7 ∨ c' = 3 ∨ c' = 4 := by rcases he with h | h | h | h <;> simp at h <;> simp [h]
        rcases hy with rfl | rfl <;> rcases h2 with rfl | rfl | rfl <;> simp [setE] at hx
  subst h8
  exact ⟨n, htk⟩

section
variable {W : World} {E : Nat → Addr}
theorem layered0_ct (hE : Errs W E) (hT : Lib.Utf8Tabs 10 11 W) (b : Bs) (hxl : b.x.length ≤ 549755813888) (text : List UInt8) (ts : List (List UInt8)) (err : Option Nat) (hb : BaseOf sepOf b text ts err) :
    Ct Tryd.prog W 28 #[.agg b.cells.toArray, .slice none 0 0] [] (fun v H' => SpL W E text v H' ts err) := by
  refine ct_of_cw (vs := [_, _]) Tryd.func28 rfl rfl fun w1 => ?_
  refine cw_seq ?_; refine cw_region ?_
  refine ol_box rfl rfl fun b2 => ?_
  refine ol_ev (ev_assign rfl) rfl ?_; refine ol_nil ?_; refine cw_seq ?_; refine cw_region ?_
  refine ol_ev (ev_loadS (cs := b.cells) rfl rfl m0 rfl) rfl ?_
  refine ol_call1 (G := []) (cap := []) rfl rfl rfl (base_ct hE hT b hxl) (List.Perm.refl _) ?_
  rintro v G' hv
  have hsp := hv text ts err hb
  clear hv
  obtain ⟨σ, fid, cap, step, I, Q, s, rfl, h2, h3, h4, h5, h6, h7⟩ := hsp
  have h5' : I s (G' ++ [(b2, (⟨(Value.agg b.cells.toArray).cells.toList, 28, (0, 0)⟩ : HO))]) := h2.perm _ _ _ (List.perm_append_comm (l₁ := [_])) (h2.more _ _ _ h5)
  generalize G' ++ [(b2, (⟨(Value.agg b.cells.toArray).cells.toList, 28, (0, 0)⟩ : HO))] = T0 at h5' ⊢
  clear h5
  refine ol_ev (ev_assign rfl) rfl ?_; refine ol_nil ?_; refine cw_seq ?_; refine cw_seq ?_; refine cw_region ?_; refine ol_ev (ev_move rfl) rfl ?_; refine ol_ev (ev_len_s rfl) rfl ?_; refine ol_ev (ev_move rfl) rfl ?_; refine ol_nil ?_; refine cw_block ?_
  refine cw_loop (σ := Unit) (fun _ => [(11, .int .i64 0), (12, .int .i64 0), (5, .func (.func fid) #[] cap.toArray)]) (fun _ => T0) (fun _ => True) (fun _ => 0) () trivial (fun a ha => ha.weak ⟨rfl, rfl, rfl, trivial⟩) rfl ?_
  intro _ _
  refine cw_seq ?_; refine cw_region ?_; refine ol_ev (ev_lt rfl rfl) rfl ?_; refine ol_nil ?_; refine cw_seq ?_; refine cw_if_f rfl ?_; refine cw_exit ?_; refine cw_seq ?_; refine cw_region ?_; refine ol_ev (ev_move rfl) rfl ?_; refine ol_ev (ev_assign rfl) rfl ?_; refine ol_nil ?_; refine cw_ret ?_
  exact ⟨_, res1 rfl rfl, σ, fid, cap, step, I, Q, s, rfl, h2, h3, h4, h5', h6, h7⟩

theorem Broken_ct (hE : Errs W E) (hT : Lib.Utf8Tabs 10 11 W) (ps : List Int) (text : List UInt8) (pv : Value) (tog : Bool) (c most : Int) (b : Bs) (hxl : b.x.length ≤ 549755813888)
    (hpv : Pcs W pv ps) (htl : text.length ≤ 549755813888) (hpl : ps.length ≤ 4611686018427387904) (hmost : most ≤ 9223372036854775807) (hlim : ((text.length : Nat) : Int) + 1 < limitOf c most) (ts : List (List UInt8)) (err : Option Nat) (hb : BaseOf sepOf b text ts err) :
    Ct Tryd.prog W 14 #[.agg #[str text, pv, .bool tog, .bool true], .agg #[.int .i64 c, .int .i64 most], .agg b.cells.toArray, .slice none 0 0] [] (fun v H' => ∃ u, v = .tuple #[u, .int .i64 5] ∧ StrsAt H' u ts) := by
  have htn := hb.len sepOf_ne
  refine ct_of_cw (vs := [_, _, _, _]) Tryd.func14 rfl rfl fun w1 => ?_
  refine cw_seq ?_; refine cw_region ?_
  refine ol_box rfl rfl fun b4 => ?_
  refine ol_box rfl rfl fun b5 => ?_
  refine ol_box rfl rfl fun b6 => ?_
  refine ol_ev (ev_assign rfl) rfl ?_; refine ol_ev (ev_assign rfl) rfl ?_; refine ol_nil ?_; refine cw_seq ?_
  refine cw_float [(0, false), (1, false), (2, false), (3, false), (4, true), (5, true), (6, true), (7, false), (8, false), (9, false), (10, false)] [(b6, ⟨(Value.agg b.cells.toArray).cells.toList, 28, (0, 0)⟩), (b5, ⟨[.int .i64 c, .int .i64 most], 26, (0, 0)⟩), (b4, ⟨[str text, pv, .bool tog, .bool true], 24, (0, 0)⟩)] mixed (by kernel_rfl) (List.Sublist.refl _) (fun _ _ _ h => h) (fun _ _ h => h) ?_
  refine fl_ev rfl (ev_loadS (cs := [str text, pv, .bool tog, .bool true]) rfl rfl m2 rfl) rfl ?_
  refine fl_ev rfl (ev_loadS (cs := [.int .i64 c, .int .i64 most]) rfl rfl m1 rfl) rfl ?_
  refine fl_ev rfl (ev_loadS (cs := b.cells) rfl rfl m0 rfl) rfl ?_
  refine fl_ev rfl (ev_move rfl) rfl ?_
  refine fl_x rfl ?_
  refine ol_call2 (G := []) (cap := []) rfl rfl rfl rfl (layered0_ct hE hT b hxl text ts err hb) (List.Perm.refl _) ?_
  rintro v G' ⟨σ, fid, cap, step, I, Q, s, rfl, hok, hso, hf, hI, hr, hlate⟩
  obtain ⟨k, htk⟩ := brk_toks (c := c) (most := most) hso hlate (fits_good (L := (limitOf c most).toNat) hso hf (by omega)) ps (run_ql hf hr (by omega)) pv tog (by omega) hb.okE
  refine ol_nil ⟨sub_right, ?_⟩
  refine fl_x rfl ?_
  refine ol_call3 (G := G') (cap := []) rfl rfl rfl rfl rfl (scanner_ct (E := E) hok ps s G' text pv tog true c most hI hpv (by omega) hpl hmost) (List.Perm.refl _) ?_
  rintro v G2 ⟨sb, rb, rfl, hready⟩
  refine ol_nil ⟨sub_right, ?_⟩
  refine fl_x rfl ?_
  refine ol_call1 (G := G2) (cap := []) rfl rfl rfl (tokens_ct hE hok ps k _ false _ (some 8) sb rb G2 htk hready (by omega)) (List.Perm.refl _) ?_
  rintro v G3 ⟨bo, sp, rfl, hmem⟩
  rw [show codeOf (if some 8 = some 0 then none else some 8) = 5 from rfl]
  refine ol_nil ⟨sub_right, ?_⟩
  refine fl_ev rfl (ev_extract rfl rfl) rfl ?_; refine fl_ev rfl (ev_extract rfl rfl) rfl ?_; refine fl_ev rfl (ev_assign rfl) rfl ?_; refine fl_ev rfl (ev_assign rfl) rfl ?_
  refine fl_nil ?_
  refine cw_ret ?_
  exact ⟨_, res2 rfl rfl rfl, _, rfl, bo, _, sp, rfl, List.mem_append_left _ hmem, Nat.le_add_right _ _⟩

theorem ev_build4 {P : Program} {C : Cx} {H : Heap} {l : Env} {t ty : TypeId} {zv : Value} {pl : List (Nat × Nat)} {cells : Array Value} {x y z q : Operand} {i0 i1 i2 i3 : Nat} {v0 v1 v2 v3 : Value} [hT : TRow P t zv pl] (hx : ev l x = some v0) (hy : ev l y = some v1) (hz : ev l z = some v2) (hq : ev l q = some v3) (hf : Instr.fill (pl.toArray[·]?) zv.cells [(i0, v0), (i1, v1), (i2, v2), (i3, v3)] = some cells) :
    Ev P C H l (.build t #[(i0, x), (i1, y), (i2, z), (i3, q)]) ty (.agg cells) := by
  refine ⟨fun a w d pos af g hs hw => ?_⟩
  have := run_build (P := P) w t #[(i0, v0), (i1, v1), (i2, v2), (i3, v3)] cells (by rw [built_row]; exact hf)
  simp [execOp, hs.eval hx, hs.eval hy, hs.eval hz, hs.eval hq, this]

theorem fnBroken_ct (hE : Errs W E) (hT : Lib.Utf8Tabs 10 11 W) (ps : List Int) (text : List UInt8) (pv : Value) (tog brk : Bool) (c most : Int) (b : Bs) (hxl : b.x.length ≤ 549755813888) (hpv : Pcs W pv ps) (htl : text.length ≤ 549755813888) (hpl : ps.length ≤ 4611686018427387904) (hmost : most ≤ 9223372036854775807) :
    Ct Tryd.prog W 6 #[.agg #[str text, pv, .bool tog, .bool brk], .agg #[.int .i64 c, .int .i64 most], .agg b.cells.toArray] [] (fun v _ => v = .bool true) := by
  obtain ⟨ts, err, hb⟩ := base_ex sepOf_ne b text
  have htn := hb.len sepOf_ne
  have hpv' := hpv
  obtain ⟨pa, pc, rfl, _⟩ := hpv'
  refine ct_of_cw (vs := [_, _, _]) Tryd.func6 rfl rfl fun w1 => ?_
  refine cw_seq ?_; refine cw_region ?_
  refine ol_box rfl rfl fun b4 => ?_
  refine ol_box rfl rfl fun b5 => ?_
  refine ol_box rfl rfl fun b6 => ?_
  refine ol_ev (ev_assign rfl) rfl ?_; refine ol_nil ?_; refine cw_seq ?_; refine cw_region ?_; refine ol_ev (ev_fld rfl) rfl ?_; refine ol_ev (ev_load rfl m2 rfl) rfl ?_
  refine ol_ev (ev_loadS (cs := b.cells) rfl rfl m0 rfl) rfl ?_
  refine ol_call2 (G := []) (cap := []) rfl rfl rfl rfl (plain_ct text b ts err hb htl hxl) (List.Perm.refl _) ?_
  rintro v G' ⟨up, un, uc, e, ok, rfl, hres⟩
  cases ok with
  | false =>
    refine OL.drop ?_
    refine ol_ev (ev_move rfl) rfl ?_; refine ol_ev (ev_extract rfl rfl) rfl ?_; refine ol_ev (ev_extract rfl rfl) rfl ?_
    refine ol_alloc rfl fun b9 => ?_
    refine ol_storeS (o := ⟨[.slice none 0 0, .int .i64 0], 41, (0, 0)⟩) (cs := [.slice up un uc, .int .i64 e]) rfl rfl rfl (by simp [Value.oneCell']) u0 rfl rfl ?_
    refine ol_ev (ev_assign rfl) rfl ?_; refine ol_nil ?_; refine cw_seq ?_; refine cw_seq ?_
    refine cw_float [(0, false), (1, false), (2, false), (3, false), (4, false), (5, false), (6, false), (7, false), (8, true), (9, false), (10, false)] [] mixed (by kernel_rfl) (List.nil_sublist _) (fun _ _ _ h => h) (fun _ _ h => h) ?_
    refine fl_ev rfl (ev_move rfl) rfl ?_; refine fl_ev rfl (ev_not rfl) rfl ?_; refine fl_ev rfl (ev_move rfl) rfl ?_; (iterate 5 (refine fl_off rfl rfl rfl rfl rfl rfl ?_))
    refine fl_x rfl ?_
    refine ol_off rfl rfl rfl rfl rfl ?_
    refine ol_nil ⟨fun _ h => (by cases h), ?_⟩
    refine fl_off rfl rfl rfl rfl rfl rfl ?_; refine fl_ev rfl (ev_pick_t rfl rfl) rfl ?_
    refine fl_nil ?_
    refine cw_if_t rfl ?_; refine cw_seq ?_; refine cw_region ?_; refine ol_ev (ev_assign rfl) rfl ?_; refine ol_nil ?_; refine cw_ret ?_
    exact ⟨_, res1 rfl rfl, rfl⟩
  | true =>
    obtain ⟨rfl, ob, ct, st, hu, hm, hct⟩ := hres rfl
    cases hu
    refine OL.keep hm ?_
    refine ol_ev (ev_move rfl) rfl ?_; refine ol_ev (ev_extract rfl rfl) rfl ?_; refine ol_ev (ev_extract rfl rfl) rfl ?_
    refine ol_alloc rfl fun b9 => ?_
    refine ol_storeS (o := ⟨[.slice none 0 0, .int .i64 0], 41, (0, 0)⟩) (cs := [.slice (some ⟨ob, 0, none⟩) ts.length uc, .int .i64 (codeOf err)]) rfl rfl rfl (by simp [Value.oneCell']) u0 rfl rfl ?_
    refine ol_ev (ev_assign rfl) rfl ?_; refine ol_nil ?_; refine cw_seq ?_; refine cw_seq ?_
    refine cw_float [(0, false), (1, false), (2, false), (3, false), (4, false), (5, false), (6, false), (7, false), (8, true), (9, false), (10, false)] [(b5, ⟨[.int .i64 c, .int .i64 most], 26, (0, 0)⟩), (b4, ⟨[str text, .slice pa ps.length pc, .bool tog, .bool brk], 24, (0, 0)⟩)] mixed (by kernel_rfl) (List.Sublist.cons _ (List.Sublist.cons _ (List.Sublist.cons _ (List.Sublist.refl _)))) (fun _ _ _ h => h) (fun _ _ h => h) ?_
    refine fl_ev rfl (ev_move rfl) rfl ?_; refine fl_ev rfl (ev_not rfl) rfl ?_; refine fl_ev rfl (ev_move rfl) rfl ?_; refine fl_ev_on rfl rfl rfl (ev_fld rfl) rfl rfl ?_; refine fl_ev_on rfl rfl rfl (ev_load rfl m1 rfl) rfl rfl ?_; refine fl_ev_on rfl rfl rfl (ev_len_str rfl) rfl rfl ?_
    refine fl_ev_on rfl rfl rfl (ev_add rfl rfl ⟨by omega, by omega⟩) rfl rfl ?_
    refine fl_ev_on rfl rfl rfl (ev_loadS (cs := [.int .i64 c, .int .i64 most]) rfl rfl m0 rfl) rfl rfl ?_
    refine fl_x rfl ?_
    refine ol_on rfl rfl rfl ?_
    refine ol_call1 (G := []) (cap := []) rfl rfl rfl (limit_ct c most) (List.Perm.refl _) ?_
    rintro v G' rfl
    refine OL.drop ?_
    refine ol_nil ⟨fun p hp => List.mem_cons_of_mem _ (List.mem_cons_of_mem _ (List.mem_cons_of_mem _ hp)), ?_⟩
    refine fl_ev_on rfl rfl rfl (ev_ge rfl rfl) rfl rfl ?_; refine fl_ev rfl (ev_pick_f rfl rfl) rfl ?_
    by_cases hlim : limitOf c most ≤ ((text.length : Nat) : Int) + 1
    · rw [decide_eq_true hlim]
      skip
      refine fl_nil ?_
      refine cw_if_t rfl ?_; refine cw_seq ?_; refine cw_region ?_; refine ol_ev (ev_assign rfl) rfl ?_; refine ol_nil ?_; refine cw_ret ?_
      exact ⟨_, res1 rfl rfl, rfl⟩
    rw [decide_eq_false hlim]
    skip
    refine fl_nil ?_
    refine cw_if_f rfl ?_; refine cw_skip ?_; refine cw_seq ?_; refine cw_region ?_; refine ol_ev (ev_fld rfl) rfl ?_; refine ol_ev (ev_load rfl m4 rfl) rfl ?_; refine ol_ev (ev_fld rfl) rfl ?_; refine ol_ev (ev_load rfl m4 rfl) rfl ?_; refine ol_ev (ev_fld rfl) rfl ?_; refine ol_ev (ev_load rfl m4 rfl) rfl ?_
    refine ol_ev (ev_build4 rfl rfl rfl rfl rfl) rfl ?_
    refine ol_alloc rfl fun bb => ?_
    refine ol_storeS (o := ⟨[str [], .slice none 0 0, .bool false, .bool false], 24, (0, 0)⟩) (cs := [str text, .slice pa ps.length pc, .bool tog, .bool true]) rfl rfl rfl (by simp [Value.oneCell', str]) u0 rfl rfl ?_
    refine ol_nil ?_; refine cw_seq ?_; refine cw_region ?_
    refine ol_ev (ev_loadS (cs := [str text, .slice pa ps.length pc, .bool tog, .bool true]) rfl rfl m0 rfl) rfl ?_
    refine ol_ev (ev_loadS (cs := [.int .i64 c, .int .i64 most]) rfl rfl m4 rfl) rfl ?_
    refine ol_ev (ev_loadS (cs := b.cells) rfl rfl m3 rfl) rfl ?_
    skip
    refine ol_call4 (G := []) (cap := []) rfl rfl rfl rfl rfl rfl (Broken_ct hE hT ps text _ tog c most b hxl hpv htl hpl hmost (by omega) ts err hb) (List.Perm.refl _) ?_
    rintro v GX ⟨uX, rfl, ⟨bgX, cgX, sgX, rfl, hgX, hcgX⟩⟩
    refine OL.keep hgX ?_
    refine ol_ev (ev_move rfl) rfl ?_; refine ol_ev (ev_extract rfl rfl) rfl ?_; refine ol_ev (ev_extract rfl rfl) rfl ?_; refine ol_ev (ev_assign rfl) rfl ?_; refine ol_ev (ev_assign rfl) rfl ?_; refine ol_nil ?_; refine cw_seq ?_; refine cw_region ?_; refine ol_ev (ev_move rfl) rfl ?_; refine ol_ev (ev_fld rfl) rfl ?_; refine ol_ev (ev_load rfl m2 rfl) rfl ?_
    refine ol_call2 (cap := []) (R := []) rfl rfl rfl rfl (same_ct _ _ _ ts ts ⟨bgX, cgX, sgX, rfl, m0, hcgX⟩ ⟨ob, uc, st, rfl, m3, hct⟩ (by omega)) (List.Perm.of_eq (List.append_nil _).symm) ?_
    rintro v G9 ⟨rfl, rfl⟩
    rw [decide_eq_true (show ts = ts from rfl)]
    refine OL.nil_app ?_
    refine ol_ev (ev_move rfl) rfl ?_; refine ol_on rfl rfl rfl ?_; refine ol_ev (ev_move rfl) rfl ?_; refine ol_on rfl rfl rfl ?_; refine ol_ev (ev_eq rfl rfl) rfl ?_; refine ol_ev (ev_pick_t rfl rfl) rfl ?_; refine ol_ev (ev_assign rfl) rfl ?_; refine ol_nil ?_; refine cw_ret ?_
    exact ⟨_, res1 rfl rfl, rfl⟩
end
end Go.HE
