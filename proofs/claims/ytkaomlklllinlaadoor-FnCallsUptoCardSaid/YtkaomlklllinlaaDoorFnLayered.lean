/- Tokens within layers are those of the reference: the walk. Conditions: those of the contracts. -/
import Derived.Test.YtkaomlklllinlaaDoorPlain
set_option maxRecDepth 100000
set_option maxHeartbeats 4000000
namespace Go.HE
open Go.RowKit Go.Proofs
theorem run_tl {σ : Type} {Q : σ → List UInt8 → Oc σ → Prop} (hq : ∀ s r t s' r', Q s r (.tok t s' r') → t.length ≤ r.length ∧ r'.length ≤ r.length) (hf : ∀ s r t, Q s r (.fin (some t)) → t.length ≤ r.length) {s : σ} {r : List UInt8} {ts : List (List UInt8)} {err : Option Nat} (h : Run Q s r ts err) : ∀ t ∈ ts, t.length ≤ r.length := by
  induction h with
  | tok h1 _ ih =>
    intro t ht
    rcases List.mem_cons.1 ht with rfl | ht
    · exact (hq _ _ _ _ _ h1).1
    · exact Nat.le_trans (ih t ht) (hq _ _ _ _ _ h1).2
  | fail _ => intro t ht; cases ht
  | fin h1 =>
    intro t ht
    rcases List.mem_cons.1 ht with rfl | ht
    · exact hf _ _ _ h1
    · cases ht
  | fin0 _ => intro t ht; cases ht
  | stop _ => intro t ht; cases ht
theorem FieldsOf.tok_le {dl es : UInt8} {text : List UInt8} {ts : List (List UInt8)} {e : Option Nat} (h : FieldsOf dl es text ts e) : ∀ t ∈ ts, t.length ≤ text.length := by
  induction h with
  | over h1 =>
    intro t ht
    rcases List.mem_cons.1 ht with rfl | ht
    · exact (fparse_len dl es _).2 _ h1
    · cases ht
  | esc _ => intro t ht; cases ht
  | cons h1 _ ih =>
    intro t ht
    rcases List.mem_cons.1 ht with rfl | ht
    · exact (fparse_len dl es _).1 _ _ h1
    · have := ih t ht
      rw [List.length_drop] at this; omega
theorem BaseOf.tok_le {b : Bs} {text : List UInt8} {ts : List (List UInt8)} {err : Option Nat} (h : BaseOf sepOf b text ts err) : ∀ t ∈ ts, t.length ≤ text.length := by
  unfold BaseOf at h
  split at h
  · refine run_tl (fun s r t s' r' hq => ?_) (fun s r t hq => ?_) h.1
    · unfold lq lout at hq
      split at hq
      · cases hq
        have := dropC_le (r.take ‹Nat›)
        rw [List.length_take] at this
        rw [List.length_drop]; omega
      · split at hq <;> cases hq
        exact ⟨dropC_le r, by simp⟩
    · unfold lq lout at hq
      split at hq
      · cases hq
      · split at hq <;> cases hq
  split at h
  · refine run_tl (fun s r t s' r' hq => ?_) (fun s r t hq => ?_) h.1
    · unfold wq wout at hq
      split at hq
      · cases hq
        rw [List.length_take, List.length_drop, List.length_drop]; omega
      · split at hq <;> cases hq
        rw [List.length_drop]
        exact ⟨by omega, by simp⟩
    · unfold wq wout at hq
      split at hq
      · cases hq
      · split at hq <;> cases hq
  split at h
  · exact h.1.tok_le
  split at h
  · exact FieldsOf.tok_le h
  split at h
  · obtain ⟨m, h⟩ := h
    exact h.tok_le
  · obtain ⟨rfl, _⟩ := h
    intro t ht
    obtain ⟨c, hc, rfl⟩ := List.mem_map.1 ht
    have := List.length_pos_of_mem hc
    simp only [List.length_singleton]; omega
section
variable {W : World} {E : Nat → Addr}
theorem fnLayered_ct (hE : Errs W E) (hT : Lib.Utf8Tabs 10 11 W) (ps : List Int) (text : List UInt8) (pv : Value) (tog brk : Bool) (c most : Int) (b : Bs) (lv : Value) (ls : List Ly) (hls : LaysAt W [] lv ls) (hll : ls.length ≤ 1099511627776) (hln : ∀ l ∈ ls, l.n ≤ 9223372036854775807) (hxl : b.x.length ≤ 549755813888) (hpv : Pcs W pv ps) (htl : text.length ≤ 549755813888) (hpl : ps.length ≤ 4611686018427387904) (hmost : most ≤ 9223372036854775807) :
    Ct Tryd.prog W 7 #[.agg #[str text, pv, .bool tog, .bool brk], .agg #[.int .i64 c, .int .i64 most], .agg b.cells.toArray, lv] [] (fun v _ => v = .bool true) := by
  obtain ⟨ts, err, hb⟩ := base_ex sepOf_ne b text
  have htn := hb.len sepOf_ne
  have htt := hb.tok_le
  obtain ⟨xs, ex, q⟩ : ∃ xs ex, laysT ls ts err = (xs, ex) := ⟨_, _, rfl⟩
  have hxlen : xs.length ≤ ts.length := by have := (laysT_ok ls ts err hb.okE).2; rw [q] at this; exact this
  refine ct_of_cw (vs := [_, _, _, _]) Tryd.func7 rfl rfl fun w1 => ?_
  refine cw_seq ?_; refine cw_region ?_
  refine ol_box rfl rfl fun b4 => ?_
  refine ol_box rfl rfl fun b5 => ?_
  refine ol_box rfl rfl fun b6 => ?_
  refine ol_ev (ev_assign rfl) rfl ?_; refine ol_nil ?_; refine cw_seq ?_; refine cw_region ?_; refine ol_ev (ev_fld rfl) rfl ?_; refine ol_ev (ev_load rfl m2 rfl) rfl ?_
  refine ol_ev (ev_loadS (cs := b.cells) rfl rfl m0 rfl) rfl ?_
  refine ol_call2 (G := []) (cap := []) rfl rfl rfl rfl (plain_ct text b ts err hb htl hxl) (List.Perm.refl _) ?_
  rintro v G' ⟨up, un, uc, e, ok, rfl, hres⟩
  cases ok with
  | false =>
    refine OL.drop ?_
    refine ol_ev (ev_move rfl) rfl ?_; refine ol_ev (ev_extract rfl rfl) rfl ?_; refine ol_ev (ev_extract rfl rfl) rfl ?_
    refine ol_alloc rfl fun b9 => ?_
    refine ol_storeS (o := ⟨[.slice none 0 0, .int .i64 0], 41, (0, 0)⟩) (cs := [.slice up un uc, .int .i64 e]) rfl rfl rfl (by simp [Value.oneCell']) u0 rfl rfl ?_
    refine ol_ev (ev_assign rfl) rfl ?_; refine ol_nil ?_; refine cw_seq ?_; refine cw_seq ?_
    refine cw_float [(0, false), (1, false), (2, false), (3, false), (4, false), (5, false), (6, false), (7, false), (8, true), (9, false), (10, false), (11, false), (12, false), (13, false), (14, false)] [] mixed (by kernel_rfl) (List.nil_sublist _) (fun _ _ _ h => h) (fun _ _ h => h) ?_
    refine fl_ev rfl (ev_move rfl) rfl ?_; refine fl_ev rfl (ev_not rfl) rfl ?_; refine fl_ev rfl (ev_move rfl) rfl ?_; (iterate 5 (refine fl_off rfl rfl rfl rfl rfl rfl ?_))
    refine fl_x rfl ?_
    refine ol_off rfl rfl rfl rfl rfl ?_
    refine ol_nil ⟨fun _ h => (by cases h), ?_⟩
    refine fl_off rfl rfl rfl rfl rfl rfl ?_; refine fl_ev rfl (ev_pick_t rfl rfl) rfl ?_; refine fl_ev rfl (ev_move rfl) rfl ?_; refine fl_off rfl rfl rfl rfl rfl rfl ?_; refine fl_off rfl rfl rfl rfl rfl rfl ?_; refine fl_ev rfl (ev_pick_t rfl rfl) rfl ?_
    refine fl_nil ?_
    refine cw_if_t rfl ?_; refine cw_seq ?_; refine cw_region ?_; refine ol_ev (ev_assign rfl) rfl ?_; refine ol_nil ?_; refine cw_ret ?_
    exact ⟨_, res1 rfl rfl, rfl⟩
  | true =>
    obtain ⟨rfl, ob, ct, st, hu, hm, hct⟩ := hres rfl
    cases hu
    refine OL.keep hm ?_
    refine ol_ev (ev_move rfl) rfl ?_; refine ol_ev (ev_extract rfl rfl) rfl ?_; refine ol_ev (ev_extract rfl rfl) rfl ?_
    refine ol_alloc rfl fun b9 => ?_
    refine ol_storeS (o := ⟨[.slice none 0 0, .int .i64 0], 41, (0, 0)⟩) (cs := [.slice (some ⟨ob, 0, none⟩) ts.length uc, .int .i64 (codeOf err)]) rfl rfl rfl (by simp [Value.oneCell']) u0 rfl rfl ?_
    refine ol_ev (ev_assign rfl) rfl ?_; refine ol_nil ?_; refine cw_seq ?_; refine cw_seq ?_
    refine cw_float [(0, false), (1, false), (2, false), (3, false), (4, false), (5, false), (6, false), (7, false), (8, true), (9, false), (10, false), (11, false), (12, false), (13, false), (14, false)] [(b5, ⟨[.int .i64 c, .int .i64 most], 26, (0, 0)⟩), (b4, ⟨[str text, pv, .bool tog, .bool brk], 24, (0, 0)⟩)] mixed (by kernel_rfl) (List.Sublist.cons _ (List.Sublist.cons _ (List.Sublist.cons _ (List.Sublist.refl _)))) (fun _ _ _ h => h) (fun _ _ h => h) ?_
    refine fl_ev rfl (ev_move rfl) rfl ?_; refine fl_ev rfl (ev_not rfl) rfl ?_; refine fl_ev rfl (ev_move rfl) rfl ?_; refine fl_ev_on rfl rfl rfl (ev_fld rfl) rfl rfl ?_; refine fl_ev_on rfl rfl rfl (ev_load rfl m1 rfl) rfl rfl ?_; refine fl_ev_on rfl rfl rfl (ev_len_str rfl) rfl rfl ?_
    refine fl_ev_on rfl rfl rfl (ev_add rfl rfl ⟨by omega, by omega⟩) rfl rfl ?_
    refine fl_ev_on rfl rfl rfl (ev_loadS (cs := [.int .i64 c, .int .i64 most]) rfl rfl m0 rfl) rfl rfl ?_
    refine fl_x rfl ?_
    refine ol_on rfl rfl rfl ?_
    refine ol_call1 (G := []) (cap := []) rfl rfl rfl (limit_ct c most) (List.Perm.refl _) ?_
    rintro v G' rfl
    refine OL.drop ?_
    refine ol_nil ⟨fun p hp => List.mem_cons_of_mem _ (List.mem_cons_of_mem _ (List.mem_cons_of_mem _ hp)), ?_⟩
    refine fl_ev_on rfl rfl rfl (ev_ge rfl rfl) rfl rfl ?_; refine fl_ev rfl (ev_pick_f rfl rfl) rfl ?_; refine fl_ev rfl (ev_move rfl) rfl ?_
    by_cases hlim : limitOf c most ≤ ((text.length : Nat) : Int) + 1
    · rw [decide_eq_true hlim]
      refine fl_off rfl rfl rfl rfl rfl rfl ?_; refine fl_off rfl rfl rfl rfl rfl rfl ?_; refine fl_ev rfl (ev_pick_t rfl rfl) rfl ?_
      refine fl_nil ?_
      refine cw_if_t rfl ?_; refine cw_seq ?_; refine cw_region ?_; refine ol_ev (ev_assign rfl) rfl ?_; refine ol_nil ?_; refine cw_ret ?_
      exact ⟨_, res1 rfl rfl, rfl⟩
    rw [decide_eq_false hlim]
    cases brk with
    | true =>
      refine fl_ev_on rfl rfl rfl (ev_fld rfl) rfl rfl ?_; refine fl_ev_on rfl rfl rfl (ev_load rfl m1 rfl) rfl rfl ?_; refine fl_ev rfl (ev_pick_f rfl rfl) rfl ?_
      refine fl_nil ?_
      refine cw_if_t rfl ?_; refine cw_seq ?_; refine cw_region ?_; refine ol_ev (ev_assign rfl) rfl ?_; refine ol_nil ?_; refine cw_ret ?_
      exact ⟨_, res1 rfl rfl, rfl⟩
    | false =>
      refine fl_ev_on rfl rfl rfl (ev_fld rfl) rfl rfl ?_; refine fl_ev_on rfl rfl rfl (ev_load rfl m1 rfl) rfl rfl ?_; refine fl_ev rfl (ev_pick_f rfl rfl) rfl ?_
      refine fl_nil ?_
      refine cw_if_f rfl ?_; refine cw_skip ?_; refine cw_seq ?_; refine cw_region ?_
      refine ol_ev (ev_loadS (cs := [.slice (some ⟨ob, 0, none⟩) ts.length uc, .int .i64 (codeOf err)]) rfl rfl m0 rfl) rfl ?_
      refine ol_ev (ev_move rfl) rfl ?_
      have cW := within_ct (W := W) lv ls hls hll hln ob uc st ts err hct (by omega) fun t ht => Nat.le_trans (htt t ht) (by omega)
      rw [q] at cW
      simp only at cW
      refine ol_call2 (G := [(ob, strO ts st)]) (cap := []) rfl rfl rfl rfl cW (List.Perm.swap _ _ _) ?_
      rintro v GW ⟨uW, rfl, ⟨bw, cw, sw, rfl, hw, hcw⟩⟩
      refine OL.keep hw ?_
      refine ol_storeS (o := ⟨[.slice (some ⟨ob, 0, none⟩) ts.length uc, .int .i64 (codeOf err)], 41, (0, 0)⟩) (cs := [.slice (some ⟨bw, 0, none⟩) xs.length cw, .int .i64 (codeOf ex)]) rfl rfl rfl (by simp [Value.oneCell']) u1 rfl rfl ?_
      refine ol_nil ?_; refine cw_seq ?_; refine cw_region ?_
      refine ol_ev (ev_loadS (cs := [str text, pv, .bool tog, .bool false]) rfl rfl m4 rfl) rfl ?_
      refine ol_ev (ev_loadS (cs := [.int .i64 c, .int .i64 most]) rfl rfl m3 rfl) rfl ?_
      refine ol_ev (ev_loadS (cs := b.cells) rfl rfl m2 rfl) rfl ?_
      refine ol_ev (ev_move rfl) rfl ?_
      have cX := Layered_ct hE hT ps text pv tog c most b hxl [] _ ls hls hll hln hpv htl hpl hmost (by omega) ts err hb
      rw [q] at cX
      simp only at cX
      refine ol_call4 (G := []) (cap := []) rfl rfl rfl rfl rfl rfl cX (List.Perm.refl _) ?_
      rintro v GX ⟨uX, rfl, ⟨bgX, cgX, sgX, rfl, hgX, hcgX⟩⟩
      refine OL.keep hgX ?_
      refine ol_ev (ev_move rfl) rfl ?_; refine ol_ev (ev_extract rfl rfl) rfl ?_; refine ol_ev (ev_extract rfl rfl) rfl ?_; refine ol_ev (ev_assign rfl) rfl ?_; refine ol_ev (ev_assign rfl) rfl ?_; refine ol_nil ?_; refine cw_seq ?_; refine cw_region ?_; refine ol_ev (ev_move rfl) rfl ?_; refine ol_ev (ev_fld rfl) rfl ?_; refine ol_ev (ev_load rfl m2 rfl) rfl ?_
      refine ol_call2 (cap := []) (R := []) rfl rfl rfl rfl (same_ct _ _ _ (xs) (xs) ⟨bgX, cgX, sgX, rfl, m0, hcgX⟩ ⟨bw, cw, sw, rfl, m1, hcw⟩ (by omega)) (List.Perm.of_eq (List.append_nil _).symm) ?_
      rintro v G9 ⟨rfl, rfl⟩
      rw [decide_eq_true (show xs = xs from rfl)]
      refine OL.nil_app ?_
      refine ol_ev (ev_move rfl) rfl ?_; refine ol_on rfl rfl rfl ?_; refine ol_ev (ev_move rfl) rfl ?_; refine ol_on rfl rfl rfl ?_; refine ol_ev (ev_fld rfl) rfl ?_; refine ol_on rfl rfl rfl ?_; refine ol_ev (ev_load rfl m2 rfl) rfl ?_; refine ol_on rfl rfl rfl ?_; refine ol_ev (ev_eq rfl rfl) rfl ?_; refine ol_ev (ev_pick_t rfl rfl) rfl ?_; refine ol_ev (ev_assign rfl) rfl ?_; refine ol_nil ?_; refine cw_ret ?_
      rw [decide_eq_true (show codeOf ex = codeOf ex from rfl)]
      skip
      exact ⟨_, res1 rfl rfl, rfl⟩
end
end Go.HE
