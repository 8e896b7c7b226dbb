/- Tokens without layers and within layers, by the reference: laws.plain and laws.within by contracts. Condition: at most 2 to the 39th bytes. -/
import Derived.Test.YtkaomlklllinlaaDoorSpecW
import Derived.Test.YtkaomlklllinlaaDoorSpecT
import Derived.Test.YtkaomlklllinlaaDoorLayC
import Derived.Test.YtkaomlklllinlaaDoorFieldsS
import Derived.Test.YtkaomlklllinlaaDoorFramesS
import Derived.Test.YtkaomlklllinlaaDoorBytes
set_option maxRecDepth 100000
set_option maxHeartbeats 4000000
namespace Go.HE
open Go.RowKit Go.Proofs
section
variable {P : Program} {C : Cx} {H : Heap} {l : Env}
theorem resC1 {fn : Func} {a0 a1 b n : Nat} {t1 : TypeId} {o : HO} {cs : List Value} {v1 : Value} [hT : TAgg P t1 n] (hn : n = cs.length) (hr : fn.results = #[.cell a0 t1, .tmp a1]) (h1 : look l a0 = some (.pointer (some ⟨b, 0, none⟩))) (h2 : look l a1 = some v1) (hb : (b, o) ∈ H) (hc : o.cells = cs) : Res P C fn l H (.tuple #[.agg cs.toArray, v1]) := by
  subst hn hc
  intro a w hs hw
  have e1 := hs.has _ _ h1
  have e2 := hs.has _ _ h2
  simp only [Array.getD_eq_getD_getElem?] at e1 e2
  obtain ⟨dd, hu, hd⟩ := Option.map_eq_some_iff.1 hT.u
  have := run_loadAt_mid (P := P) w b 0 t1 o.cells dd (fun j v hj => St.cell hw hb (by simpa using hj)) hu hd hT.s
  simp only [Instr.loadAt, Instr.sureAddr, Sem.run_bind, Sem.run_pure, Result.andThen_ok] at this
  simp [results, hr, e1, e2, asAddr, this]
theorem ev_build0 {t ty : TypeId} {zv : Value} {pl : List (Nat × Nat)} {cells : Array Value} [hT : TRow P t zv pl] (hf : Instr.fill (pl.toArray[·]?) zv.cells [] = some cells) : Ev P C H l (.build t #[]) ty (.agg cells) := by
  refine ⟨fun a w d pos af g hs hw => ?_⟩
  have := run_build (P := P) w t #[] cells (by rw [built_row]; exact hf)
  simp [execOp, this]
end
theorem run_none {σ : Type} {Q : σ → List UInt8 → Oc σ → Prop} (hq : ∀ s r c, ¬ Q s r (.fail c)) {s : σ} {r : List UInt8} {ts : List (List UInt8)} {err : Option Nat} (h : Run Q s r ts err) : err = none := by
  induction h with
  | tok _ _ ih => exact ih
  | fail h => exact absurd h (hq _ _ _)
  | fin _ => rfl
  | fin0 _ => rfl
  | stop _ => rfl
theorem lq_none (s : Unit) (r : List UInt8) (c : Nat) : ¬ lq s r (.fail c) := by
  intro hq
  unfold lq lout at hq
  split at hq
  · cases hq
  · split at hq <;> cases hq
theorem wq_none (s : Unit) (r : List UInt8) (c : Nat) : ¬ wq s r (.fail c) := by
  intro hq
  unfold wq wout at hq
  split at hq
  · cases hq
  · split at hq <;> cases hq

section
variable {W : World} {E : Nat → Addr}
theorem plain_ct (text : List UInt8) (b : Bs) (ts : List (List UInt8)) (err : Option Nat) (hb : BaseOf sepOf b text ts err) (hl : text.length ≤ 549755813888) (hxl : b.x.length ≤ 549755813888) :
    Ct Tryd.prog W 18 #[str text, .agg b.cells.toArray] [] (fun v H' => ∃ p n c e ok, v = .tuple #[.agg #[.slice p n c, .int .i64 e], .bool ok] ∧ (ok = true → e = codeOf err ∧ StrsAt H' (.slice p n c) ts)) := by
  obtain ⟨kind, n, x, dl, es⟩ := b
  unfold BaseOf at hb
  simp only at hb hxl
  refine ct_of_cw (vs := [_, _]) Tryd.func18 rfl rfl fun w1 => ?_
  refine cw_seq ?_; refine cw_region ?_
  refine ol_box rfl rfl fun b1 => ?_
  show OL _ _ _ _ _ [(b1, ⟨[.int .i64 kind, .int .i64 n, str x, bv dl, bv es], 28, (0, 0)⟩)] _
  refine ol_alloc rfl fun r0 => ?_
  refine ol_ev (ev_assign rfl) rfl ?_; refine ol_nil ?_; refine cw_seq ?_; refine cw_seq ?_; refine cw_region ?_; refine ol_ev (ev_fld rfl) rfl ?_; refine ol_ev (ev_load rfl m1 rfl) rfl ?_; refine ol_nil ?_; refine cw_block ?_; refine cw_seq ?_; refine cw_region ?_; refine ol_ev (ev_eq rfl rfl) rfl ?_; refine ol_ev (ev_assign rfl) rfl ?_; refine ol_nil ?_
  refine cw_ifd rfl (fun h2 => ?_) (fun h2 => ?_)
  · rw [if_pos h2] at hb
    obtain ⟨hr, hn⟩ := hb
    have he := run_none lq_none hr
    subst he
    refine cw_seq ?_
    refine cw_float [(0, false), (2, false), (3, false), (1, true), (4, false), (5, false), (6, false), (7, false), (8, false), (9, false), (10, false), (11, false), (12, true), (13, false)] [] mixed (by kernel_rfl) (List.nil_sublist _) (fun _ _ _ h => h) (fun _ _ h => h) ?_
    refine fl_ev rfl (ev_move rfl) rfl ?_; refine fl_ev rfl (ev_move rfl) rfl ?_; refine fl_ev rfl (ev_eq_str rfl rfl) rfl ?_
    refine fl_x rfl ?_
    refine ol_call1 (G := []) (cap := []) rfl rfl rfl (specLines_ct text ts hr hn (by omega)) (List.Perm.refl _) ?_
    rintro v G' ⟨u, rfl, ob, ct, st, rfl, hm, hc⟩
    refine OL.keep hm ?_
    refine ol_nil ⟨fun _ h => (by cases h), ?_⟩
    by_cases h0 : text = []
    · rw [decide_eq_true (show text = _ from h0)]
      refine fl_ev rfl (ev_move rfl) rfl ?_; (iterate 6 (refine fl_off rfl rfl rfl rfl rfl rfl ?_)); refine fl_ev rfl (ev_pick_t rfl rfl) rfl ?_
      refine fl_x rfl ?_
      refine ol_storeS (o := ⟨[.slice none 0 0, .int .i64 0], 41, (0, 0)⟩) (cs := [.slice (some ⟨ob, 0, none⟩) ts.length ct, .int .i64 0]) rfl rfl rfl (by simp [Value.oneCell']) u1 rfl rfl ?_
      refine ol_nil ⟨fun _ h => (by cases h), ?_⟩
      refine fl_ev rfl (ev_assign rfl) rfl ?_
      refine fl_nil ?_
      refine cw_ret ?_
      exact ⟨_, resC1 (cs := [.slice (some ⟨ob, 0, none⟩) ts.length ct, .int .i64 0]) rfl rfl rfl rfl m1 rfl, _, _, _, _, _, rfl, fun _ => ⟨rfl, ob, ct, st, rfl, m0, hc⟩⟩
    · have hp := List.length_pos_iff.2 h0
      have hi : text[(((text.length : Nat) : Int) - 1).toNat]? = some (text[text.length - 1]'(by omega)) := by
        rw [show (((text.length : Nat) : Int) - 1).toNat = text.length - 1 by omega]; exact List.getElem?_eq_getElem _
      rw [decide_eq_false (show ¬ text = _ from h0)]
      refine fl_ev rfl (ev_move rfl) rfl ?_; refine fl_ev_on rfl rfl rfl (ev_move rfl) rfl rfl ?_; refine fl_ev_on rfl rfl rfl (ev_move rfl) rfl rfl ?_; refine fl_ev_on rfl rfl rfl (ev_len_str rfl) rfl rfl ?_
      refine fl_ev_on rfl rfl rfl (ev_sub rfl rfl ⟨by omega, by omega⟩) rfl rfl ?_
      refine fl_ev_on rfl rfl rfl (ev_index_str rfl rfl (by omega) hi) rfl rfl ?_
      refine fl_ev_on rfl rfl rfl (ev_ne rfl rfl) rfl rfl ?_; refine fl_ev rfl (ev_pick_f rfl rfl) rfl ?_
      refine fl_x rfl ?_
      refine ol_storeS (o := ⟨[.slice none 0 0, .int .i64 0], 41, (0, 0)⟩) (cs := [.slice (some ⟨ob, 0, none⟩) ts.length ct, .int .i64 0]) rfl rfl rfl (by simp [Value.oneCell']) u1 rfl rfl ?_
      refine ol_nil ⟨fun _ h => (by cases h), ?_⟩
      refine fl_ev rfl (ev_assign rfl) rfl ?_
      refine fl_nil ?_
      refine cw_ret ?_
      exact ⟨_, resC1 (cs := [.slice (some ⟨ob, 0, none⟩) ts.length ct, .int .i64 0]) rfl rfl rfl rfl m1 rfl, _, _, _, _, _, rfl, fun _ => ⟨rfl, ob, ct, st, rfl, m0, hc⟩⟩
  rw [if_neg h2] at hb
  refine cw_seq ?_; refine cw_region ?_; refine ol_ev (ev_eq rfl rfl) rfl ?_; refine ol_ev (ev_assign rfl) rfl ?_; refine ol_nil ?_
  refine cw_ifd rfl (fun h3 => ?_) (fun h3 => ?_)
  · rw [if_pos h3] at hb
    obtain ⟨hr, hn⟩ := hb
    have he := run_none wq_none hr
    subst he
    refine cw_seq ?_; refine cw_seq ?_; refine cw_region ?_; refine ol_ev (ev_assign rfl) rfl ?_; refine ol_nil ?_; refine cw_block ?_
    refine cw_loop (σ := Nat) (fun i => [(0, str text), (3, .pointer (some ⟨b1, 0, none⟩)), (4, .pointer (some ⟨r0, 0, none⟩)), (6, .int .i64 (i : Int))]) (fun _ => [(r0, ⟨[.slice none 0 0, .int .i64 0], 41, (0, 0)⟩), (b1, ⟨[.int .i64 kind, .int .i64 n, str x, bv dl, bv es], 28, (0, 0)⟩)])
      (fun i => i ≤ text.length ∧ ∀ c ∈ text.take i, c.toNat < 128) (fun i => text.length - i) 0 ⟨Nat.zero_le _, by simp⟩ (fun a ha => ha.weak ⟨rfl, rfl, rfl, rfl, trivial⟩) rfl ?_
    rintro i ⟨hi, ha⟩
    refine cw_seq ?_; refine cw_seq ?_; refine cw_region ?_; refine ol_ev (ev_move rfl) rfl ?_; refine ol_ev (ev_move rfl) rfl ?_; refine ol_ev (ev_len_str rfl) rfl ?_; refine ol_ev (ev_lt rfl rfl) rfl ?_; refine ol_nil ?_
    refine cw_ifd rfl (fun h9 => ?_) (fun h9 => ?_)
    · have hx : i < text.length := by omega
      have hc : text[((i : Nat) : Int).toNat]? = some text[i] := by rw [show ((i : Nat) : Int).toNat = i by omega]; exact List.getElem?_eq_getElem hx
      refine cw_skip ?_; refine cw_seq ?_; refine cw_block ?_; refine cw_seq ?_; refine cw_region ?_; refine ol_ev (ev_move rfl) rfl ?_; refine ol_ev (ev_move rfl) rfl ?_
      refine ol_ev (ev_index_str rfl rfl (by omega) hc) rfl ?_
      refine ol_ev (ev_gt rfl rfl) rfl ?_; refine ol_nil ?_
      refine cw_ifd rfl (fun h8 => ?_) (fun h8 => ?_)
      · refine cw_seq ?_; refine cw_region ?_
        refine ol_ev (ev_build0 rfl) rfl ?_
        refine ol_storeS (o := ⟨[.slice none 0 0, .int .i64 0], 41, (0, 0)⟩) (cs := [.slice none 0 0, .int .i64 0]) rfl rfl rfl (by simp [Value.oneCell']) u0 rfl rfl ?_
        refine ol_ev (ev_assign rfl) rfl ?_; refine ol_nil ?_; refine cw_ret ?_
        exact ⟨_, resC1 (cs := [.slice none 0 0, .int .i64 0]) rfl rfl rfl rfl m0 rfl, _, _, _, _, _, rfl, fun h => by cases h⟩
      · refine cw_skip ?_; refine cw_region ?_; refine ol_ev (ev_move rfl) rfl ?_; (refine ol_ev (ev_add rfl rfl ?_) rfl ?_; (constructor <;> omega)); refine ol_ev (ev_assign rfl) rfl ?_; refine ol_nil ?_
        refine ⟨i + 1, ⟨hx, fun c hm => ?_⟩, ⟨rfl, rfl, rfl, rfl, trivial⟩, rfl, by omega⟩
        rw [take_snoc hx] at hm
        rcases List.mem_append.1 hm with hm | hm
        · exact ha c hm
        · simp only [List.mem_singleton] at hm; subst hm; omega
    · have hA : Ascii text := fun c hm => ha c (by rw [List.take_of_length_le (by omega)]; exact hm)
      refine cw_exit ?_; refine cw_seq ?_; refine cw_region ?_; refine ol_ev (ev_move rfl) rfl ?_
      refine ol_call1 (G := []) (cap := []) rfl rfl rfl (specWords_ct text ts hr hA (by omega)) (List.Perm.refl _) ?_
      rintro v G' ⟨u, rfl, ob, ct, st, rfl, hm, hc⟩
      refine OL.keep hm ?_
      refine ol_storeS (o := ⟨[.slice none 0 0, .int .i64 0], 41, (0, 0)⟩) (cs := [.slice (some ⟨ob, 0, none⟩) ts.length ct, .int .i64 (0)]) rfl rfl rfl (by simp [Value.oneCell']) u1 rfl rfl ?_
      refine ol_ev (ev_assign rfl) rfl ?_; refine ol_nil ?_; refine cw_ret ?_
      exact ⟨_, resC1 (cs := [.slice (some ⟨ob, 0, none⟩) ts.length ct, .int .i64 (0)]) rfl rfl rfl rfl m1 rfl, _, _, _, _, _, rfl, fun _ => ⟨rfl, ob, ct, st, rfl, m0, hc⟩⟩
  rw [if_neg h3] at hb
  refine cw_seq ?_; refine cw_region ?_; refine ol_ev (ev_eq rfl rfl) rfl ?_; refine ol_ev (ev_assign rfl) rfl ?_; refine ol_nil ?_
  refine cw_ifd rfl (fun h4 => ?_) (fun h4 => ?_)
  · rw [if_pos h4] at hb
    obtain ⟨hps, rfl⟩ := hb
    have hsl := sepOf_len x
    refine cw_seq ?_; refine cw_region ?_; refine ol_ev (ev_move rfl) rfl ?_; refine ol_ev (ev_fld rfl) rfl ?_; refine ol_ev (ev_load rfl m1 rfl) rfl ?_
    refine ol_call1 (G := []) (cap := []) rfl rfl rfl (separated_ct x) (List.Perm.refl _) ?_
    rintro v G' ⟨rfl, rfl⟩
    refine OL.drop ?_
    refine ol_call2 (G := []) (cap := []) rfl rfl rfl rfl (specParts_ct text (sepOf x) (sepOf_ne x) ts hps (by omega) (by omega)) (List.Perm.refl _) ?_
    rintro v G' ⟨u, rfl, ob, ct, st, rfl, hm, hc⟩
    refine OL.keep hm ?_
    refine ol_storeS (o := ⟨[.slice none 0 0, .int .i64 0], 41, (0, 0)⟩) (cs := [.slice (some ⟨ob, 0, none⟩) ts.length ct, .int .i64 (0)]) rfl rfl rfl (by simp [Value.oneCell']) u1 rfl rfl ?_
    refine ol_ev (ev_assign rfl) rfl ?_; refine ol_nil ?_; refine cw_ret ?_
    exact ⟨_, resC1 (cs := [.slice (some ⟨ob, 0, none⟩) ts.length ct, .int .i64 (0)]) rfl rfl rfl rfl m1 rfl, _, _, _, _, _, rfl, fun _ => ⟨rfl, ob, ct, st, rfl, m0, hc⟩⟩
  rw [if_neg h4] at hb
  refine cw_seq ?_; refine cw_region ?_; refine ol_ev (ev_eq rfl rfl) rfl ?_; refine ol_ev (ev_assign rfl) rfl ?_; refine ol_nil ?_
  refine cw_ifd rfl (fun h5 => ?_) (fun h5 => ?_)
  · rw [if_pos h5] at hb
    refine cw_seq ?_; refine cw_region ?_; refine ol_ev (ev_move rfl) rfl ?_; refine ol_ev (ev_fld rfl) rfl ?_; refine ol_ev (ev_load rfl m1 rfl) rfl ?_; refine ol_ev (ev_fld rfl) rfl ?_; refine ol_ev (ev_load rfl m1 rfl) rfl ?_
    refine ol_call3 (G := []) (cap := []) rfl rfl rfl rfl rfl (specFields_ct text dl es ts err hb (by omega)) (List.Perm.refl _) ?_
    rintro v G' ⟨u, rfl, ob, ct, st, rfl, hm, hc⟩
    refine OL.keep hm ?_
    refine ol_storeS (o := ⟨[.slice none 0 0, .int .i64 0], 41, (0, 0)⟩) (cs := [.slice (some ⟨ob, 0, none⟩) ts.length ct, .int .i64 (codeOf err)]) rfl rfl rfl (by simp [Value.oneCell']) u1 rfl rfl ?_
    refine ol_ev (ev_assign rfl) rfl ?_; refine ol_nil ?_; refine cw_ret ?_
    exact ⟨_, resC1 (cs := [.slice (some ⟨ob, 0, none⟩) ts.length ct, .int .i64 (codeOf err)]) rfl rfl rfl rfl m1 rfl, _, _, _, _, _, rfl, fun _ => ⟨rfl, ob, ct, st, rfl, m0, hc⟩⟩
  rw [if_neg h5] at hb
  refine cw_seq ?_; refine cw_region ?_; refine ol_ev (ev_eq rfl rfl) rfl ?_; refine ol_ev (ev_assign rfl) rfl ?_; refine ol_nil ?_
  refine cw_ifd rfl (fun h6 => ?_) (fun h6 => ?_)
  · rw [if_pos h6] at hb
    obtain ⟨m, hf⟩ := hb
    refine cw_seq ?_; refine cw_region ?_; refine ol_ev (ev_move rfl) rfl ?_; refine ol_ev (ev_fld rfl) rfl ?_; refine ol_ev (ev_load rfl m1 rfl) rfl ?_
    refine ol_call1 (G := []) (cap := []) rfl rfl rfl (wide_ct n (min (max n 1) 3).toNat (by omega)) (List.Perm.refl _) ?_
    rintro v G' ⟨rfl, rfl⟩
    refine OL.drop ?_
    refine ol_call2 (G := []) (cap := []) rfl rfl rfl rfl (specFrames_ct text (min (max n 1) 3).toNat (by omega) (by omega) ts err m hf (by omega)) (List.Perm.refl _) ?_
    rintro v G' ⟨u, rfl, ob, ct, st, rfl, hm, hc⟩
    refine OL.keep hm ?_
    refine ol_storeS (o := ⟨[.slice none 0 0, .int .i64 0], 41, (0, 0)⟩) (cs := [.slice (some ⟨ob, 0, none⟩) ts.length ct, .int .i64 (codeOf err)]) rfl rfl rfl (by simp [Value.oneCell']) u1 rfl rfl ?_
    refine ol_ev (ev_assign rfl) rfl ?_; refine ol_nil ?_; refine cw_ret ?_
    exact ⟨_, resC1 (cs := [.slice (some ⟨ob, 0, none⟩) ts.length ct, .int .i64 (codeOf err)]) rfl rfl rfl rfl m1 rfl, _, _, _, _, _, rfl, fun _ => ⟨rfl, ob, ct, st, rfl, m0, hc⟩⟩
  rw [if_neg h6] at hb
  obtain ⟨rfl, rfl⟩ := hb
  refine cw_skip ?_; refine cw_seq ?_; refine cw_region ?_; refine ol_ev (ev_move rfl) rfl ?_
  refine ol_call1 (G := []) (cap := []) rfl rfl rfl (singles_ct text (by omega)) (List.Perm.refl _) ?_
  rintro v G' ⟨u, rfl, ob, ct, st, rfl, hm, hc⟩
  refine OL.keep hm ?_
  refine ol_storeS (o := ⟨[.slice none 0 0, .int .i64 0], 41, (0, 0)⟩) (cs := [.slice (some ⟨ob, 0, none⟩) (singles text).length ct, .int .i64 (0)]) rfl rfl rfl (by simp [Value.oneCell']) u1 rfl rfl ?_
  refine ol_ev (ev_assign rfl) rfl ?_; refine ol_nil ?_; refine cw_ret ?_
  exact ⟨_, resC1 (cs := [.slice (some ⟨ob, 0, none⟩) (singles text).length ct, .int .i64 (0)]) rfl rfl rfl rfl m1 rfl, _, _, _, _, _, rfl, fun _ => ⟨rfl, ob, ct, st, rfl, m0, hc⟩⟩

/-- What a layer makes of a result. -/
def WR (a : Ly) (ts : List (List UInt8)) (e : Option Nat) : Value → Heap → Prop := fun v H' => ∃ u, v = .agg #[u, .int .i64 (codeOf (a.err ts e))] ∧ StrsAt H' u (a.toks ts)
theorem Ly.toks_tl (a : Ly) {ts : List (List UInt8)} {n : Nat} (h : ∀ t ∈ ts, t.length ≤ n) : ∀ t ∈ a.toks ts, t.length ≤ n := by
  unfold Ly.toks
  split
  · exact fun t ht => h t (List.mem_of_mem_take ht)
  split
  · exact fun t ht => h t ((List.takeWhile_sublist _).subset ht)
  split
  · exact fun t ht => h t (List.mem_filter.1 ht).1
  split
  · intro t ht
    obtain ⟨u, hu, rfl⟩ := List.mem_map.1 ht
    have := h u hu
    rw [List.length_take]; omega
  split
  · intro t ht
    obtain ⟨u, hu, rfl⟩ := List.mem_map.1 ht
    rw [List.length_reverse]; exact h u hu
  split
  · exact fun t ht => h t (List.mem_of_mem_take ht)
  · exact h
theorem wTake1_ct (a : Ly) (bt ct : Nat) (st : List Value) (ts : List (List UInt8)) (e : Option Nat) (hc : ts.length ≤ ct) (hl : ts.length ≤ 1099511627776) (hn : a.n ≤ 9223372036854775807) (hk : a.kind = 1) : Ct Tryd.prog W 37 #[.agg #[.slice (some ⟨bt, 0, none⟩) ts.length ct, .int .i64 (codeOf e)], .int .i64 a.n] [(bt, strO ts st)] (WR a ts e) := by
  have h := specTake_ct (W := W) bt ct st ts (codeOf e) a.n hn hc hl
  have e1 : a.toks ts = ts.take a.n.toNat := by unfold Ly.toks; rw [if_pos (by omega)]
  have e2 : a.err ts e = takeE a.n ts e := by unfold Ly.err; rw [if_pos (by omega)]
  have e3 : codeOf (takeE a.n ts e) = if (ts.length : Int) < a.n then codeOf e else 0 := by unfold takeE; split <;> rfl
  unfold WR; rw [e1, e2, e3]; exact h
theorem wUntil2_ct (a : Ly) (bt ct : Nat) (st : List Value) (ts : List (List UInt8)) (e : Option Nat) (hc : ts.length ≤ ct) (hl : ts.length ≤ 1099511627776) (hk : a.kind = 2) : Ct Tryd.prog W 38 #[.agg #[.slice (some ⟨bt, 0, none⟩) ts.length ct, .int .i64 (codeOf e)], str a.x, .int .i64 0] [(bt, strO ts st)] (WR a ts e) := by
  have h := specUntil_ct (W := W) bt ct st ts (codeOf e) a.x 0 hc hl
  have e1 : a.toks ts = untilT a.x ts := by unfold Ly.toks; rw [if_neg (by omega), if_pos (by omega)]
  have e2 : a.err ts e = untilE a.x ts (decide (a.kind = 3)) e := by unfold Ly.err; rw [if_neg (by omega), if_pos (by omega)]
  have e3 : codeOf (untilE a.x ts (decide (a.kind = 3)) e) = if a.x ∈ ts then 0 else codeOf e := by rw [decide_eq_false (by omega)]; unfold untilE; split <;> rfl
  unfold WR; rw [e1, e2, e3]; exact h
theorem wUntil3_ct (a : Ly) (bt ct : Nat) (st : List Value) (ts : List (List UInt8)) (e : Option Nat) (hc : ts.length ≤ ct) (hl : ts.length ≤ 1099511627776) (hk : a.kind = 3) : Ct Tryd.prog W 38 #[.agg #[.slice (some ⟨bt, 0, none⟩) ts.length ct, .int .i64 (codeOf e)], str a.x, .int .i64 4] [(bt, strO ts st)] (WR a ts e) := by
  have h := specUntil_ct (W := W) bt ct st ts (codeOf e) a.x 4 hc hl
  have e1 : a.toks ts = untilT a.x ts := by unfold Ly.toks; rw [if_neg (by omega), if_pos (by omega)]
  have e2 : a.err ts e = untilE a.x ts (decide (a.kind = 3)) e := by unfold Ly.err; rw [if_neg (by omega), if_pos (by omega)]
  have e3 : codeOf (untilE a.x ts (decide (a.kind = 3)) e) = if a.x ∈ ts then 4 else codeOf e := by rw [decide_eq_true hk]; unfold untilE; split <;> rfl
  unfold WR; rw [e1, e2, e3]; exact h
theorem wDrop4_ct (a : Ly) (bt ct : Nat) (st : List Value) (ts : List (List UInt8)) (e : Option Nat) (hl : ts.length ≤ 1099511627776) (hk : a.kind = 4) : Ct Tryd.prog W 24 #[.agg #[.slice (some ⟨bt, 0, none⟩) ts.length ct, .int .i64 (codeOf e)], str a.x] [(bt, strO ts st)] (WR a ts e) := by
  have h := specDrop_ct (W := W) [(bt, strO ts st)] bt ct st ts (codeOf e) a.x List.mem_cons_self hl
  have e1 : a.toks ts = ts.filter (fun t => decide (t ≠ a.x)) := by unfold Ly.toks; rw [if_neg (by omega), if_neg (by omega), if_pos (by omega)]
  have e2 : a.err ts e = e := by unfold Ly.err; rw [if_neg (by omega), if_neg (by omega), if_neg (by omega)]
  unfold WR; rw [e1, e2]
  refine h.mono ?_
  rintro v K ⟨ob, sp, N, rfl, rfl⟩
  exact ⟨_, rfl, ob, _, sp, rfl, List.mem_cons_self, Nat.le_add_right _ _⟩
theorem wHead5_ct (a : Ly) (bt ct : Nat) (st : List Value) (ts : List (List UInt8)) (e : Option Nat) (hl : ts.length ≤ 1099511627776) (hk : a.kind = 5) : Ct Tryd.prog W 39 #[.agg #[.slice (some ⟨bt, 0, none⟩) ts.length ct, .int .i64 (codeOf e)], .int .i64 a.n] [(bt, strO ts st)] (WR a ts e) := by
  have h := specHead_ct (W := W) bt ct st ts (codeOf e) a.n hl
  have e1 : a.toks ts = ts.map (fun t => t.take a.n.toNat) := by unfold Ly.toks; rw [if_neg (by omega), if_neg (by omega), if_neg (by omega), if_pos (by omega)]
  have e2 : a.err ts e = e := by unfold Ly.err; rw [if_neg (by omega), if_neg (by omega), if_neg (by omega)]
  unfold WR; rw [e1, e2]; exact h
theorem wBack6_ct (a : Ly) (bt ct : Nat) (st : List Value) (ts : List (List UInt8)) (e : Option Nat) (hl : ts.length ≤ 1099511627776) (ht : ∀ t ∈ ts, t.length ≤ 1099511627776) (hk : a.kind = 6) : Ct Tryd.prog W 40 #[.agg #[.slice (some ⟨bt, 0, none⟩) ts.length ct, .int .i64 (codeOf e)]] [(bt, strO ts st)] (WR a ts e) := by
  have h := specBack_ct (W := W) bt ct st ts (codeOf e) ht hl
  have e1 : a.toks ts = ts.map List.reverse := by unfold Ly.toks; rw [if_neg (by omega), if_neg (by omega), if_neg (by omega), if_neg (by omega), if_pos (by omega)]
  have e2 : a.err ts e = e := by unfold Ly.err; rw [if_neg (by omega), if_neg (by omega), if_neg (by omega)]
  unfold WR; rw [e1, e2]; exact h
theorem wAstray7_ct (a : Ly) (bt ct : Nat) (st : List Value) (ts : List (List UInt8)) (e : Option Nat) (hc : ts.length ≤ ct) (hn : a.n ≤ 9223372036854775807) (hk : a.kind = 7) : Ct Tryd.prog W 41 #[.agg #[.slice (some ⟨bt, 0, none⟩) ts.length ct, .int .i64 (codeOf e)], .int .i64 a.n, .int .i64 3] [(bt, strO ts st)] (WR a ts e) := by
  have h := specAstray_ct (W := W) bt ct st ts (codeOf e) a.n 3 hn hc
  have e1 : a.toks ts = ts.take (max a.n 0).toNat := by unfold Ly.toks; rw [if_neg (by omega), if_neg (by omega), if_neg (by omega), if_neg (by omega), if_neg (by omega), if_pos (by omega)]
  have e2 : a.err ts e = strayE (decide (a.kind = 7)) (max a.n 0).toNat ts e := by unfold Ly.err; rw [if_neg (by omega), if_neg (by omega), if_pos (by omega)]
  have e3 : codeOf (strayE (decide (a.kind = 7)) (max a.n 0).toNat ts e) = if ts.length ≤ (max a.n 0).toNat then codeOf e else 3 := by rw [decide_eq_true hk]; unfold strayE; split <;> rfl
  unfold WR; rw [e1, e2, e3]; exact h
theorem wAstray8_ct (a : Ly) (bt ct : Nat) (st : List Value) (ts : List (List UInt8)) (e : Option Nat) (hc : ts.length ≤ ct) (hn : a.n ≤ 9223372036854775807) (hk : a.kind = 8) : Ct Tryd.prog W 41 #[.agg #[.slice (some ⟨bt, 0, none⟩) ts.length ct, .int .i64 (codeOf e)], .int .i64 a.n, .int .i64 2] [(bt, strO ts st)] (WR a ts e) := by
  have h := specAstray_ct (W := W) bt ct st ts (codeOf e) a.n 2 hn hc
  have e1 : a.toks ts = ts.take (max a.n 0).toNat := by unfold Ly.toks; rw [if_neg (by omega), if_neg (by omega), if_neg (by omega), if_neg (by omega), if_neg (by omega), if_pos (by omega)]
  have e2 : a.err ts e = strayE (decide (a.kind = 7)) (max a.n 0).toNat ts e := by unfold Ly.err; rw [if_neg (by omega), if_neg (by omega), if_pos (by omega)]
  have e3 : codeOf (strayE (decide (a.kind = 7)) (max a.n 0).toNat ts e) = if ts.length ≤ (max a.n 0).toNat then codeOf e else 2 := by rw [decide_eq_false (by omega)]; unfold strayE; split <;> rfl
  unfold WR; rw [e1, e2, e3]; exact h

theorem within_ct (lv : Value) (ls : List Ly) (hls : LaysAt W [] lv ls) (hll : ls.length ≤ 1099511627776) (hln : ∀ l ∈ ls, l.n ≤ 9223372036854775807) (bt ct : Nat) (st : List Value) (ts : List (List UInt8)) (err : Option Nat) (hc : ts.length ≤ ct) (hl : ts.length ≤ 1099511627776) (hlt : ∀ t ∈ ts, t.length ≤ 1099511627776) :
    Ct Tryd.prog W 19 #[.agg #[.slice (some ⟨bt, 0, none⟩) ts.length ct, .int .i64 (codeOf err)], lv] [(bt, strO ts st)] (fun v H' => ∃ u, v = .agg #[u, .int .i64 (codeOf (laysT ls ts err).2)] ∧ StrsAt H' u (laysT ls ts err).1) := by
  obtain ⟨la, lcap, rfl, hlay⟩ := hls
  refine ct_of_cw (vs := [_, _]) Tryd.func19 rfl rfl fun w1 => ?_
  refine cw_seq ?_; refine cw_region ?_
  refine ol_box rfl rfl fun b2 => ?_
  refine ol_alloc rfl fun r4 => ?_
  refine OL.perm rev3 ?_
  refine ol_nil ?_; refine cw_seq ?_; refine cw_seq ?_; refine cw_region ?_; refine ol_ev (ev_assign rfl) rfl ?_; refine ol_nil ?_; refine cw_block ?_
  refine cw_loop (σ := Nat × Nat × Nat × List Value × List (List UInt8) × Option Nat) (fun g => [(1, .slice la ls.length lcap), (2, .pointer (some ⟨b2, 0, none⟩)), (4, .pointer (some ⟨r4, 0, none⟩)), (5, .int .i64 (g.1 : Int))])
    (fun g => [(g.2.1, strO g.2.2.2.2.1 g.2.2.2.1), (b2, ⟨[.slice (some ⟨g.2.1, 0, none⟩) g.2.2.2.2.1.length g.2.2.1, .int .i64 (codeOf g.2.2.2.2.2)], 41, (0, 0)⟩), (r4, ⟨[.slice none 0 0, .int .i64 0], 41, (0, 0)⟩)])
    (fun g => g.1 ≤ ls.length ∧ laysT (ls.drop g.1) g.2.2.2.2.1 g.2.2.2.2.2 = laysT ls ts err ∧ g.2.2.2.2.1.length ≤ ts.length ∧ g.2.2.2.2.1.length ≤ g.2.2.1 ∧ ∀ t ∈ g.2.2.2.2.1, t.length ≤ 1099511627776) (fun g => ls.length - g.1)
    (0, bt, ct, st, ts, err) ⟨Nat.zero_le _, by simp, Nat.le_refl _, hc, hlt⟩ (fun a ha => ha.weak ⟨rfl, rfl, rfl, rfl, trivial⟩) rfl ?_
  rintro ⟨i, cb, cc, sx, xs, e⟩ ⟨hi, hly, hxl, hxc, htk⟩
  simp only at hi hly hxl hxc htk ⊢
  refine cw_seq ?_; refine cw_seq ?_; refine cw_region ?_; refine ol_ev (ev_move rfl) rfl ?_; refine ol_ev (ev_move rfl) rfl ?_; refine ol_ev (ev_len_s rfl) rfl ?_; refine ol_ev (ev_lt rfl rfl) rfl ?_; refine ol_nil ?_
  refine cw_ifd rfl (fun h0 => ?_) (fun h0 => ?_)
  · have hx : i < ls.length := by omega
    obtain ⟨lb, loff, rfl, hcell⟩ := hlay i ls[i] (List.getElem?_eq_getElem hx)
    have hcW : ∀ (j : Nat) u, ls[i].cells[j]? = some u → W.cell? ⟨lb, loff + i * 3 + j, none⟩ = some u := by
      rcases hcell with ⟨o, ho, _⟩ | h
      · cases ho
      · exact h
    have hnx := hln ls[i] (List.getElem_mem hx)
    rw [List.drop_eq_getElem_cons hx] at hly
    clear hcell
    generalize ls[i] = a at hcW hnx hly
    have c0 : W.cell? ⟨lb, loff + i * 3 + 0, none⟩ = some (.int .i64 a.kind) := hcW 0 _ rfl
    have c1 : W.cell? ⟨lb, loff + i * 3 + 1, none⟩ = some (.int .i64 a.n) := hcW 1 _ rfl
    have c2 : W.cell? ⟨lb, loff + i * 3 + 2, none⟩ = some (str a.x) := hcW 2 _ rfl
    have hlen := a.toks_len xs
    have hnew : laysT (ls.drop (i + 1)) (a.toks xs) (a.err xs e) = laysT ls ts err := hly
    have htk' := a.toks_tl htk
    refine cw_skip ?_; refine cw_seq ?_; refine cw_block ?_; refine cw_seq ?_; refine cw_region ?_; refine ol_ev (ev_move rfl) rfl ?_; refine ol_ev (ev_move rfl) rfl ?_
    refine ol_ev (ev_idx rfl rfl (by omega) (by omega)) rfl ?_
    refine ol_ev (ev_fld rfl) rfl ?_
    refine ol_ev (ev_loadW rfl c0) rfl ?_
    refine ol_nil ?_; refine cw_block ?_; refine cw_seq ?_; refine cw_region ?_; refine ol_ev (ev_eq rfl rfl) rfl ?_; refine ol_ev (ev_assign rfl) rfl ?_; refine ol_nil ?_
    refine cw_ifd rfl (fun h1 => ?_) (fun h1 => ?_)
    · refine cw_tail 6 mixed (by kernel_rfl) ?_
      refine sl_ev (ev_loadS (cs := [.slice (some ⟨cb, 0, none⟩) xs.length cc, .int .i64 (codeOf e)]) rfl rfl m1 rfl) rfl ?_
      refine sl_ev (ev_move rfl) rfl ?_; refine sl_ev (ev_move rfl) rfl ?_
      refine sl_ev (ev_idx rfl rfl (by omega) (by omega)) rfl ?_
      refine sl_ev (ev_fld rfl) rfl ?_
      refine sl_ev (ev_loadW rfl c1) rfl ?_
      refine sl_nil ?_
      refine ol_call2 (G := [(cb, strO xs sx)]) (cap := []) rfl rfl rfl rfl (wTake1_ct a cb cc sx xs e hxc (by omega) hnx h1) (List.Perm.refl _) ?_
      rintro v G' ⟨u, rfl, ob, cq, sq, rfl, hm, hq⟩
      refine OL.keep hm ?_
      refine ol_storeS (o := ⟨[.slice (some ⟨cb, 0, none⟩) xs.length cc, .int .i64 (codeOf e)], 41, (0, 0)⟩) (cs := [.slice (some ⟨ob, 0, none⟩) (a.toks xs).length cq, .int .i64 (codeOf (a.err xs e))]) rfl rfl rfl (by simp [Value.oneCell']) u1 rfl rfl ?_
      refine ol_nil ?_; refine cw_region ?_; refine ol_ev (ev_move rfl) rfl ?_; (refine ol_ev (ev_add rfl rfl ?_) rfl ?_; (constructor <;> omega)); refine ol_ev (ev_assign rfl) rfl ?_; refine ol_nil ?_
      exact ⟨(i + 1, ob, cq, sq, a.toks xs, a.err xs e), ⟨hx, hnew, by show (a.toks xs).length ≤ ts.length; omega, hq, htk'⟩, ⟨rfl, rfl, rfl, rfl, trivial⟩, rfl, by show ls.length - (i + 1) < ls.length - i; omega⟩
    refine cw_seq ?_; refine cw_region ?_; refine ol_ev (ev_eq rfl rfl) rfl ?_; refine ol_ev (ev_assign rfl) rfl ?_; refine ol_nil ?_
    refine cw_ifd rfl (fun h2 => ?_) (fun h2 => ?_)
    · refine cw_tail 6 mixed (by kernel_rfl) ?_
      refine sl_ev (ev_loadS (cs := [.slice (some ⟨cb, 0, none⟩) xs.length cc, .int .i64 (codeOf e)]) rfl rfl m1 rfl) rfl ?_
      refine sl_ev (ev_move rfl) rfl ?_; refine sl_ev (ev_move rfl) rfl ?_
      refine sl_ev (ev_idx rfl rfl (by omega) (by omega)) rfl ?_
      refine sl_ev (ev_fld rfl) rfl ?_
      refine sl_ev (ev_loadW rfl c2) rfl ?_
      refine sl_nil ?_
      refine ol_call3 (G := [(cb, strO xs sx)]) (cap := []) rfl rfl rfl rfl rfl (wUntil2_ct a cb cc sx xs e hxc (by omega) h2) (List.Perm.refl _) ?_
      rintro v G' ⟨u, rfl, ob, cq, sq, rfl, hm, hq⟩
      refine OL.keep hm ?_
      refine ol_storeS (o := ⟨[.slice (some ⟨cb, 0, none⟩) xs.length cc, .int .i64 (codeOf e)], 41, (0, 0)⟩) (cs := [.slice (some ⟨ob, 0, none⟩) (a.toks xs).length cq, .int .i64 (codeOf (a.err xs e))]) rfl rfl rfl (by simp [Value.oneCell']) u1 rfl rfl ?_
      refine ol_nil ?_; refine cw_region ?_; refine ol_ev (ev_move rfl) rfl ?_; (refine ol_ev (ev_add rfl rfl ?_) rfl ?_; (constructor <;> omega)); refine ol_ev (ev_assign rfl) rfl ?_; refine ol_nil ?_
      exact ⟨(i + 1, ob, cq, sq, a.toks xs, a.err xs e), ⟨hx, hnew, by show (a.toks xs).length ≤ ts.length; omega, hq, htk'⟩, ⟨rfl, rfl, rfl, rfl, trivial⟩, rfl, by show ls.length - (i + 1) < ls.length - i; omega⟩
    refine cw_seq ?_; refine cw_region ?_; refine ol_ev (ev_eq rfl rfl) rfl ?_; refine ol_ev (ev_assign rfl) rfl ?_; refine ol_nil ?_
    refine cw_ifd rfl (fun h3 => ?_) (fun h3 => ?_)
    · refine cw_tail 6 mixed (by kernel_rfl) ?_
      refine sl_ev (ev_loadS (cs := [.slice (some ⟨cb, 0, none⟩) xs.length cc, .int .i64 (codeOf e)]) rfl rfl m1 rfl) rfl ?_
      refine sl_ev (ev_move rfl) rfl ?_; refine sl_ev (ev_move rfl) rfl ?_
      refine sl_ev (ev_idx rfl rfl (by omega) (by omega)) rfl ?_
      refine sl_ev (ev_fld rfl) rfl ?_
      refine sl_ev (ev_loadW rfl c2) rfl ?_
      refine sl_nil ?_
      refine ol_call3 (G := [(cb, strO xs sx)]) (cap := []) rfl rfl rfl rfl rfl (wUntil3_ct a cb cc sx xs e hxc (by omega) h3) (List.Perm.refl _) ?_
      rintro v G' ⟨u, rfl, ob, cq, sq, rfl, hm, hq⟩
      refine OL.keep hm ?_
      refine ol_storeS (o := ⟨[.slice (some ⟨cb, 0, none⟩) xs.length cc, .int .i64 (codeOf e)], 41, (0, 0)⟩) (cs := [.slice (some ⟨ob, 0, none⟩) (a.toks xs).length cq, .int .i64 (codeOf (a.err xs e))]) rfl rfl rfl (by simp [Value.oneCell']) u1 rfl rfl ?_
      refine ol_nil ?_; refine cw_region ?_; refine ol_ev (ev_move rfl) rfl ?_; (refine ol_ev (ev_add rfl rfl ?_) rfl ?_; (constructor <;> omega)); refine ol_ev (ev_assign rfl) rfl ?_; refine ol_nil ?_
      exact ⟨(i + 1, ob, cq, sq, a.toks xs, a.err xs e), ⟨hx, hnew, by show (a.toks xs).length ≤ ts.length; omega, hq, htk'⟩, ⟨rfl, rfl, rfl, rfl, trivial⟩, rfl, by show ls.length - (i + 1) < ls.length - i; omega⟩
    refine cw_seq ?_; refine cw_region ?_; refine ol_ev (ev_eq rfl rfl) rfl ?_; refine ol_ev (ev_assign rfl) rfl ?_; refine ol_nil ?_
    refine cw_ifd rfl (fun h4 => ?_) (fun h4 => ?_)
    · refine cw_tail 6 mixed (by kernel_rfl) ?_
      refine sl_ev (ev_loadS (cs := [.slice (some ⟨cb, 0, none⟩) xs.length cc, .int .i64 (codeOf e)]) rfl rfl m1 rfl) rfl ?_
      refine sl_ev (ev_move rfl) rfl ?_; refine sl_ev (ev_move rfl) rfl ?_
      refine sl_ev (ev_idx rfl rfl (by omega) (by omega)) rfl ?_
      refine sl_ev (ev_fld rfl) rfl ?_
      refine sl_ev (ev_loadW rfl c2) rfl ?_
      refine sl_nil ?_
      refine ol_call2 (G := [(cb, strO xs sx)]) (cap := []) rfl rfl rfl rfl (wDrop4_ct a cb cc sx xs e (by omega) h4) (List.Perm.refl _) ?_
      rintro v G' ⟨u, rfl, ob, cq, sq, rfl, hm, hq⟩
      refine OL.keep hm ?_
      refine ol_storeS (o := ⟨[.slice (some ⟨cb, 0, none⟩) xs.length cc, .int .i64 (codeOf e)], 41, (0, 0)⟩) (cs := [.slice (some ⟨ob, 0, none⟩) (a.toks xs).length cq, .int .i64 (codeOf (a.err xs e))]) rfl rfl rfl (by simp [Value.oneCell']) u1 rfl rfl ?_
      refine ol_nil ?_; refine cw_region ?_; refine ol_ev (ev_move rfl) rfl ?_; (refine ol_ev (ev_add rfl rfl ?_) rfl ?_; (constructor <;> omega)); refine ol_ev (ev_assign rfl) rfl ?_; refine ol_nil ?_
      exact ⟨(i + 1, ob, cq, sq, a.toks xs, a.err xs e), ⟨hx, hnew, by show (a.toks xs).length ≤ ts.length; omega, hq, htk'⟩, ⟨rfl, rfl, rfl, rfl, trivial⟩, rfl, by show ls.length - (i + 1) < ls.length - i; omega⟩
    refine cw_seq ?_; refine cw_region ?_; refine ol_ev (ev_eq rfl rfl) rfl ?_; refine ol_ev (ev_assign rfl) rfl ?_; refine ol_nil ?_
    refine cw_ifd rfl (fun h5 => ?_) (fun h5 => ?_)
    · refine cw_tail 6 mixed (by kernel_rfl) ?_
      refine sl_ev (ev_loadS (cs := [.slice (some ⟨cb, 0, none⟩) xs.length cc, .int .i64 (codeOf e)]) rfl rfl m1 rfl) rfl ?_
      refine sl_ev (ev_move rfl) rfl ?_; refine sl_ev (ev_move rfl) rfl ?_
      refine sl_ev (ev_idx rfl rfl (by omega) (by omega)) rfl ?_
      refine sl_ev (ev_fld rfl) rfl ?_
      refine sl_ev (ev_loadW rfl c1) rfl ?_
      refine sl_nil ?_
      refine ol_call2 (G := [(cb, strO xs sx)]) (cap := []) rfl rfl rfl rfl (wHead5_ct a cb cc sx xs e (by omega) h5) (List.Perm.refl _) ?_
      rintro v G' ⟨u, rfl, ob, cq, sq, rfl, hm, hq⟩
      refine OL.keep hm ?_
      refine ol_storeS (o := ⟨[.slice (some ⟨cb, 0, none⟩) xs.length cc, .int .i64 (codeOf e)], 41, (0, 0)⟩) (cs := [.slice (some ⟨ob, 0, none⟩) (a.toks xs).length cq, .int .i64 (codeOf (a.err xs e))]) rfl rfl rfl (by simp [Value.oneCell']) u1 rfl rfl ?_
      refine ol_nil ?_; refine cw_region ?_; refine ol_ev (ev_move rfl) rfl ?_; (refine ol_ev (ev_add rfl rfl ?_) rfl ?_; (constructor <;> omega)); refine ol_ev (ev_assign rfl) rfl ?_; refine ol_nil ?_
      exact ⟨(i + 1, ob, cq, sq, a.toks xs, a.err xs e), ⟨hx, hnew, by show (a.toks xs).length ≤ ts.length; omega, hq, htk'⟩, ⟨rfl, rfl, rfl, rfl, trivial⟩, rfl, by show ls.length - (i + 1) < ls.length - i; omega⟩
    refine cw_seq ?_; refine cw_region ?_; refine ol_ev (ev_eq rfl rfl) rfl ?_; refine ol_ev (ev_assign rfl) rfl ?_; refine ol_nil ?_
    refine cw_ifd rfl (fun h6 => ?_) (fun h6 => ?_)
    · refine cw_region ?_
      refine ol_ev (ev_loadS (cs := [.slice (some ⟨cb, 0, none⟩) xs.length cc, .int .i64 (codeOf e)]) rfl rfl m1 rfl) rfl ?_
      refine ol_call1 (G := [(cb, strO xs sx)]) (cap := []) rfl rfl rfl (wBack6_ct a cb cc sx xs e (by omega) htk h6) (List.Perm.refl _) ?_
      rintro v G' ⟨u, rfl, ob, cq, sq, rfl, hm, hq⟩
      refine OL.keep hm ?_
      refine ol_storeS (o := ⟨[.slice (some ⟨cb, 0, none⟩) xs.length cc, .int .i64 (codeOf e)], 41, (0, 0)⟩) (cs := [.slice (some ⟨ob, 0, none⟩) (a.toks xs).length cq, .int .i64 (codeOf (a.err xs e))]) rfl rfl rfl (by simp [Value.oneCell']) u1 rfl rfl ?_
      refine ol_nil ?_; refine cw_region ?_; refine ol_ev (ev_move rfl) rfl ?_; (refine ol_ev (ev_add rfl rfl ?_) rfl ?_; (constructor <;> omega)); refine ol_ev (ev_assign rfl) rfl ?_; refine ol_nil ?_
      exact ⟨(i + 1, ob, cq, sq, a.toks xs, a.err xs e), ⟨hx, hnew, by show (a.toks xs).length ≤ ts.length; omega, hq, htk'⟩, ⟨rfl, rfl, rfl, rfl, trivial⟩, rfl, by show ls.length - (i + 1) < ls.length - i; omega⟩
    refine cw_seq ?_; refine cw_region ?_; refine ol_ev (ev_eq rfl rfl) rfl ?_; refine ol_ev (ev_assign rfl) rfl ?_; refine ol_nil ?_
    refine cw_ifd rfl (fun h7 => ?_) (fun h7 => ?_)
    · refine cw_tail 6 mixed (by kernel_rfl) ?_
      refine sl_ev (ev_loadS (cs := [.slice (some ⟨cb, 0, none⟩) xs.length cc, .int .i64 (codeOf e)]) rfl rfl m1 rfl) rfl ?_
      refine sl_ev (ev_move rfl) rfl ?_; refine sl_ev (ev_move rfl) rfl ?_
      refine sl_ev (ev_idx rfl rfl (by omega) (by omega)) rfl ?_
      refine sl_ev (ev_fld rfl) rfl ?_
      refine sl_ev (ev_loadW rfl c1) rfl ?_
      refine sl_nil ?_
      refine ol_call3 (G := [(cb, strO xs sx)]) (cap := []) rfl rfl rfl rfl rfl (wAstray7_ct a cb cc sx xs e hxc hnx h7) (List.Perm.refl _) ?_
      rintro v G' ⟨u, rfl, ob, cq, sq, rfl, hm, hq⟩
      refine OL.keep hm ?_
      refine ol_storeS (o := ⟨[.slice (some ⟨cb, 0, none⟩) xs.length cc, .int .i64 (codeOf e)], 41, (0, 0)⟩) (cs := [.slice (some ⟨ob, 0, none⟩) (a.toks xs).length cq, .int .i64 (codeOf (a.err xs e))]) rfl rfl rfl (by simp [Value.oneCell']) u1 rfl rfl ?_
      refine ol_nil ?_; refine cw_region ?_; refine ol_ev (ev_move rfl) rfl ?_; (refine ol_ev (ev_add rfl rfl ?_) rfl ?_; (constructor <;> omega)); refine ol_ev (ev_assign rfl) rfl ?_; refine ol_nil ?_
      exact ⟨(i + 1, ob, cq, sq, a.toks xs, a.err xs e), ⟨hx, hnew, by show (a.toks xs).length ≤ ts.length; omega, hq, htk'⟩, ⟨rfl, rfl, rfl, rfl, trivial⟩, rfl, by show ls.length - (i + 1) < ls.length - i; omega⟩
    refine cw_seq ?_; refine cw_region ?_; refine ol_ev (ev_eq rfl rfl) rfl ?_; refine ol_ev (ev_assign rfl) rfl ?_; refine ol_nil ?_
    refine cw_ifd rfl (fun h8 => ?_) (fun h8 => ?_)
    · refine cw_tail 6 mixed (by kernel_rfl) ?_
      refine sl_ev (ev_loadS (cs := [.slice (some ⟨cb, 0, none⟩) xs.length cc, .int .i64 (codeOf e)]) rfl rfl m1 rfl) rfl ?_
      refine sl_ev (ev_move rfl) rfl ?_; refine sl_ev (ev_move rfl) rfl ?_
      refine sl_ev (ev_idx rfl rfl (by omega) (by omega)) rfl ?_
      refine sl_ev (ev_fld rfl) rfl ?_
      refine sl_ev (ev_loadW rfl c1) rfl ?_
      refine sl_nil ?_
      refine ol_call3 (G := [(cb, strO xs sx)]) (cap := []) rfl rfl rfl rfl rfl (wAstray8_ct a cb cc sx xs e hxc hnx h8) (List.Perm.refl _) ?_
      rintro v G' ⟨u, rfl, ob, cq, sq, rfl, hm, hq⟩
      refine OL.keep hm ?_
      refine ol_storeS (o := ⟨[.slice (some ⟨cb, 0, none⟩) xs.length cc, .int .i64 (codeOf e)], 41, (0, 0)⟩) (cs := [.slice (some ⟨ob, 0, none⟩) (a.toks xs).length cq, .int .i64 (codeOf (a.err xs e))]) rfl rfl rfl (by simp [Value.oneCell']) u1 rfl rfl ?_
      refine ol_nil ?_; refine cw_region ?_; refine ol_ev (ev_move rfl) rfl ?_; (refine ol_ev (ev_add rfl rfl ?_) rfl ?_; (constructor <;> omega)); refine ol_ev (ev_assign rfl) rfl ?_; refine ol_nil ?_
      exact ⟨(i + 1, ob, cq, sq, a.toks xs, a.err xs e), ⟨hx, hnew, by show (a.toks xs).length ≤ ts.length; omega, hq, htk'⟩, ⟨rfl, rfl, rfl, rfl, trivial⟩, rfl, by show ls.length - (i + 1) < ls.length - i; omega⟩
    have e1 : a.toks xs = xs := by unfold Ly.toks; rw [if_neg (by omega), if_neg (by omega), if_neg (by omega), if_neg (by omega), if_neg (by omega), if_neg (by omega)]
    have e2 : a.err xs e = e := by unfold Ly.err; rw [if_neg (by omega), if_neg (by omega), if_neg (by omega)]
    rw [e1, e2] at hnew
    refine cw_skip ?_; refine cw_region ?_; refine ol_ev (ev_move rfl) rfl ?_; (refine ol_ev (ev_add rfl rfl ?_) rfl ?_; (constructor <;> omega)); refine ol_ev (ev_assign rfl) rfl ?_; refine ol_nil ?_
    exact ⟨(i + 1, cb, cc, sx, xs, e), ⟨hx, hnew, hxl, hxc, htk⟩, ⟨rfl, rfl, rfl, rfl, trivial⟩, rfl, by show ls.length - (i + 1) < ls.length - i; omega⟩
  · rw [List.drop_of_length_le (by omega)] at hly
    rw [← hly]
    refine cw_exit ?_; refine cw_seq ?_; refine cw_region ?_
    refine ol_ev (ev_loadS (cs := [.slice (some ⟨cb, 0, none⟩) xs.length cc, .int .i64 (codeOf e)]) rfl rfl m1 rfl) rfl ?_
    refine ol_storeS (o := ⟨[.slice none 0 0, .int .i64 0], 41, (0, 0)⟩) (cs := [.slice (some ⟨cb, 0, none⟩) xs.length cc, .int .i64 (codeOf e)]) rfl rfl rfl (by simp [Value.oneCell']) u2 rfl rfl ?_
    refine ol_nil ?_; refine cw_ret ?_
    exact ⟨_, resC (cs := [.slice (some ⟨cb, 0, none⟩) xs.length cc, .int .i64 (codeOf e)]) rfl rfl rfl m2 rfl, _, rfl, cb, cc, sx, rfl, m0, hxc⟩
end
end Go.HE
