/- Fields with escapes: the reference, by a contract. Condition: the text has at most 2 to the 40th bytes. -/
import Derived.Test.YtkaomlklllinlaaDoorFieldsP
import Derived.Test.YtkaomlklllinlaaDoorPartsP
import Derived.Test.YtkaomlklllinlaaDoorAll
/- Fields written with escapes, and fields without escapes: plain mathematics. No condition. -/
set_option maxRecDepth 100000
set_option maxHeartbeats 1000000
namespace Go.HE

theorem fparse_plain {dl es b : UInt8} (h1 : b ≠ es) (h2 : b ≠ dl) (X : List UInt8) : fparse dl es (b :: X) = (fparse dl es X).add b 1 := by
  cases X with
  | nil => unfold fparse; rw [if_neg h1, if_neg h2]; rfl
  | cons c r =>
    show fparse dl es (b :: c :: r) = _
    rw [fparse, if_neg h1, if_neg h2]
theorem fparse_escd {dl es b : UInt8} (X : List UInt8) : fparse dl es (es :: b :: X) = (fparse dl es X).add b 2 := by
  rw [fparse, if_pos rfl]
theorem fparse_delim {dl es : UInt8} (h : dl ≠ es) (X : List UInt8) : fparse dl es (dl :: X) = .stop [] 1 := by
  cases X with
  | nil => unfold fparse; rw [if_neg h, if_pos rfl]
  | cons c r => rw [fparse, if_neg h, if_pos rfl]

/-- A field with an escape ahead of each byte that needs one. -/
def escF (dl es : UInt8) : List UInt8 → List UInt8
  | [] => []
  | b :: r => if b = dl ∨ b = es then es :: b :: escF dl es r else b :: escF dl es r
theorem escF_append (dl es : UInt8) : ∀ x y : List UInt8, escF dl es (x ++ y) = escF dl es x ++ escF dl es y
  | [], _ => rfl
  | b :: r, y => by
    simp only [List.cons_append, escF, escF_append dl es r y]
    split <;> simp
theorem escF_len (dl es : UInt8) : ∀ x : List UInt8, (escF dl es x).length ≤ 2 * x.length
  | [] => by simp [escF]
  | b :: r => by
    have := escF_len dl es r
    unfold escF
    split <;> simp <;> omega
theorem fparse_esc {dl es : UInt8} (h : dl ≠ es) : ∀ t : List UInt8, fparse dl es (escF dl es t) = .over t ∧ ∀ rest, fparse dl es (escF dl es t ++ dl :: rest) = .stop t ((escF dl es t).length + 1)
  | [] => ⟨by simp [escF, fparse], fun rest => by simpa [escF] using fparse_delim h rest⟩
  | b :: r => by
    obtain ⟨h1, h2⟩ := fparse_esc h r
    unfold escF
    by_cases hb : b = dl ∨ b = es
    · rw [if_pos hb]
      refine ⟨by rw [fparse_escd, h1]; rfl, fun rest => ?_⟩
      rw [List.cons_append, List.cons_append, fparse_escd, h2]
      rfl
    · rw [if_neg hb]
      have hb1 : b ≠ es := fun h => hb (.inr h)
      have hb2 : b ≠ dl := fun h => hb (.inl h)
      refine ⟨by rw [fparse_plain hb1 hb2, h1]; rfl, fun rest => ?_⟩
      rw [List.cons_append, fparse_plain hb1 hb2, h2]
      rfl
theorem fields_again {dl es : UInt8} (h : dl ≠ es) : ∀ (t : List UInt8) (r : List (List UInt8)), FieldsOf dl es (escF dl es t ++ (r.map fun u => [dl] ++ escF dl es u).flatten) (t :: r) none
  | t, [] => by
    have := FieldsOf.over (fparse_esc h t).1
    simpa using this
  | t, u :: r => by
    have ih := fields_again h u r
    have hf := (fparse_esc h t).2 (escF dl es u ++ (r.map fun u => [dl] ++ escF dl es u).flatten)
    have e : escF dl es t ++ ((u :: r).map fun u => [dl] ++ escF dl es u).flatten = escF dl es t ++ dl :: (escF dl es u ++ (r.map fun u => [dl] ++ escF dl es u).flatten) := by simp
    rw [e]
    refine FieldsOf.cons hf ?_
    have e2 : (escF dl es t ++ dl :: (escF dl es u ++ (r.map fun u => [dl] ++ escF dl es u).flatten)).drop ((escF dl es t).length + 1) = escF dl es u ++ (r.map fun u => [dl] ++ escF dl es u).flatten := by
      rw [← List.drop_drop, List.drop_append_of_le_length (Nat.le_refl _), List.drop_of_length_le (Nat.le_refl _)]
      rfl
    rw [e2]; exact ih

theorem fparse_find {dl es : UInt8} : ∀ r : List UInt8, es ∉ r → fparse dl es r = match findW [dl] r with | none => .over r | some k => .stop (r.take k) (k + 1)
  | [], _ => by simp [fparse, findW]
  | b :: r, h => by
    have hb : b ≠ es := fun e => h (e ▸ List.mem_cons_self)
    have hr : es ∉ r := fun e => h (List.mem_cons_of_mem _ e)
    have ih := fparse_find (dl := dl) r hr
    by_cases hd : b = dl
    · subst hd
      rw [fparse_delim hb]
      simp [findW]
    · rw [fparse_plain hb hd, ih]
      have : ¬ ([dl].isPrefixOf (b :: r)) = true := by
        simp [List.isPrefixOf]
        exact fun h => hd h.symm
      rw [findW, if_neg this]
      cases findW [dl] r <;> rfl
theorem fields_plain {dl es : UInt8} {text : List UInt8} {ts : List (List UInt8)} (h : PartsOf [dl] text ts) (hn : es ∉ text) : FieldsOf dl es text ts none := by
  induction h with
  | last hf => exact .over (by rw [fparse_find _ hn, hf])
  | @cons r k ts hf _ ih => exact FieldsOf.cons (t := r.take k) (n := k + 1) (by rw [fparse_find _ hn, hf]) (ih fun h => hn (List.mem_of_mem_drop h))
end Go.HE

/- Fields with escapes, by contracts: the split function, all tokens. Conditions: the errors are as start-up lays them; the pieces lie in old memory; the text has at most 2 to the 40th bytes. -/
set_option maxRecDepth 100000
set_option maxHeartbeats 4000000
namespace Go.HE
open Go.RowKit Go.Proofs

/-- A field so far, and what follows it. -/
def FP.pre (f : List UInt8) (n : Nat) : FP → FP
  | .stop t k => .stop (f ++ t) (n + k)
  | .over t => .over (f ++ t)
  | .esc => .esc
theorem FP.pre_add (f : List UInt8) (n : Nat) (c : UInt8) (k : Nat) (x : FP) : (x.add c k).pre f n = x.pre (f ++ [c]) (n + k) := by
  cases x with
  | stop t j => simp [FP.add, FP.pre]; omega
  | over t => simp [FP.add, FP.pre]
  | esc => rfl
theorem drop_two {d : List UInt8} {i : Nat} (h : i + 1 < d.length) : d.drop i = d[i] :: d[i + 1] :: d.drop (i + 2) := by
  rw [List.drop_eq_getElem_cons (by omega), List.drop_eq_getElem_cons h]

section
variable {W : World} {E : Nat → Addr}
theorem fields_ok (hE : Errs W E) (eb db : Nat) (dl es : UInt8) : SplitOk W E 85 [.pointer (some ⟨eb, 0, none⟩), .pointer (some ⟨db, 0, none⟩)] (estep dl es) (fun _ T => (eb, (⟨[bv es], 5, (0, 0)⟩ : HO)) ∈ T ∧ (db, (⟨[bv dl], 5, (0, 0)⟩ : HO)) ∈ T) := by
  refine ⟨by kernel_rfl, fun _ _ _ hp h => ⟨hp.subset h.1, hp.subset h.2⟩, fun _ _ _ h => ⟨List.mem_cons_of_mem _ h.1, List.mem_cons_of_mem _ h.2⟩, fun s d e c h => ?_, fun s T bb off dcap cells data atEOF hI hne hdat hle hcap hbig => ?_⟩
  · unfold estep at h
    split at h
    · cases h
    · split at h
      · cases h; omega
      · cases h
    · split at h
      · cases h; omega
      · cases h
  refine ct_of_cw (vs := [_, _, _, _]) Tryd.func85 rfl rfl fun w1 => ?_
  refine cw_seq ?_
  refine cw_region ?_; (iterate 3 (refine ol_ev (ev_assign rfl) rfl ?_)); refine ol_nil ?_
  refine cw_seq ?_
  refine cw_region ?_
  refine ol_slice0 rfl fun tb => ?_
  refine ol_ev (ev_assign rfl) rfl ?_; refine ol_nil ?_
  refine cw_cut (fun l' H' => ∃ tb f sp, SubE l' [(0, .slice (some ⟨bb, off, none⟩) data.length dcap), (1, .bool atEOF), (9, .slice (some ⟨tb, 0, none⟩) f.length (f.length + sp.length))] ∧ H' = (tb, (⟨bcells f ++ sp, 5, (0, 0)⟩ : HO)) :: (bb, (⟨cells, 5, (0, 0)⟩ : HO)) :: T ∧ fparse dl es data = .over f) ?_ ?_
  · refine cw_seq ?_; refine cw_region ?_; refine ol_ev (ev_assign rfl) rfl ?_; refine ol_nil ?_; refine cw_block ?_
    refine cw_loop (σ := Nat × Nat × List UInt8 × List Value) (fun g => [(0, .slice (some ⟨bb, off, none⟩) data.length dcap), (1, .bool atEOF), (2, .pointer (some ⟨eb, 0, none⟩)), (3, .pointer (some ⟨db, 0, none⟩)), (9, .slice (some ⟨g.2.1, 0, none⟩) g.2.2.1.length (g.2.2.1.length + g.2.2.2.length)), (10, .int .i64 (g.1 : Int))]) (fun g => (g.2.1, (⟨bcells g.2.2.1 ++ g.2.2.2, 5, (0, 0)⟩ : HO)) :: (bb, (⟨cells, 5, (0, 0)⟩ : HO)) :: T)
      (fun g => g.1 ≤ data.length ∧ g.2.2.1.length ≤ g.1 ∧ fparse dl es data = (fparse dl es (data.drop g.1)).pre g.2.2.1 g.1) (fun g => data.length - g.1) (0, tb, [], []) ⟨Nat.zero_le _, by simp, by
        show fparse dl es data = (fparse dl es (data.drop 0)).pre [] 0
        rw [List.drop_zero]
        cases fparse dl es data <;> simp [FP.pre]⟩ (fun a ha => ha.weak ⟨rfl, rfl, rfl, rfl, rfl, rfl, trivial⟩) rfl ?_
    rintro ⟨i, tb, f, sp⟩ ⟨hi, hfl, hpar⟩
    simp only at hi hfl hpar ⊢
    have hE' : (eb, (⟨[bv es], 5, (0, 0)⟩ : HO)) ∈ (tb, (⟨bcells f ++ sp, 5, (0, 0)⟩ : HO)) :: (bb, (⟨cells, 5, (0, 0)⟩ : HO)) :: T := List.mem_cons_of_mem _ (List.mem_cons_of_mem _ hI.1)
    have hD' : (db, (⟨[bv dl], 5, (0, 0)⟩ : HO)) ∈ (tb, (⟨bcells f ++ sp, 5, (0, 0)⟩ : HO)) :: (bb, (⟨cells, 5, (0, 0)⟩ : HO)) :: T := List.mem_cons_of_mem _ (List.mem_cons_of_mem _ hI.2)
    refine cw_seq ?_; refine cw_seq ?_; refine cw_region ?_; refine ol_ev (ev_move rfl) rfl ?_; refine ol_ev (ev_move rfl) rfl ?_; refine ol_ev (ev_len_s rfl) rfl ?_; refine ol_ev (ev_lt rfl rfl) rfl ?_; refine ol_nil ?_
    refine cw_ifd rfl (fun h2 => ?_) (fun h2 => ?_)
    · have hx : i < data.length := by omega
      have k1 : cells[off + ((i : Nat) : Int).toNat]? = some (bv data[i]) := cell_at hdat hx
      refine cw_skip ?_; refine cw_seq ?_; refine cw_block ?_; refine cw_block ?_; refine cw_seq ?_
      refine cw_still mixed (by kernel_rfl) ?_
      refine sl_ev (ev_move rfl) rfl ?_; refine sl_ev (ev_move rfl) rfl ?_
      refine sl_ev (ev_idx1 rfl rfl (by omega) (by omega)) rfl ?_
      refine sl_ev (ev_load rfl m1 k1) rfl ?_
      refine sl_ev (ev_load rfl hE' rfl) rfl ?_
      refine sl_ev (ev_eq rfl rfl) rfl ?_; refine sl_ev (ev_move rfl) rfl ?_
      by_cases hb : data[i] = es
      · rw [decide_eq_true ((bv_dec _ _).2 hb)]
        by_cases hlast : i + 1 < data.length
        · have k2 : cells[off + (((i : Nat) : Int) + 1).toNat]? = some (bv data[i + 1]) := by
            have : (((i : Nat) : Int) + 1).toNat = i + 1 := by omega
            rw [this]; exact cell_at hdat hlast
          refine sl_on rfl rfl rfl ?_; refine sl_ev (ev_move rfl) rfl ?_; refine sl_on rfl rfl rfl ?_; (refine sl_ev (ev_add rfl rfl ?_) rfl ?_; (constructor <;> omega)); refine sl_on rfl rfl rfl ?_; refine sl_ev (ev_move rfl) rfl ?_; refine sl_on rfl rfl rfl ?_; refine sl_ev (ev_len_s rfl) rfl ?_; refine sl_on rfl rfl rfl ?_; refine sl_ev (ev_lt rfl rfl) rfl ?_; refine sl_ev (ev_pick_t rfl rfl) rfl ?_; refine sl_ev (ev_assign rfl) rfl ?_; refine sl_nil ?_
          rw [decide_eq_true (show ((i : Nat) : Int) + 1 < ((data.length : Nat) : Int) by omega)]
          skip
          refine cw_if_t rfl ?_; refine cw_seq ?_; refine cw_region ?_; refine ol_ev (ev_move rfl) rfl ?_; (refine ol_ev (ev_add rfl rfl ?_) rfl ?_; (constructor <;> omega)); refine ol_ev (ev_assign rfl) rfl ?_; refine ol_nil ?_; refine cw_region ?_; (iterate 3 (refine ol_ev (ev_move rfl) rfl ?_))
          refine ol_ev (ev_idx1 rfl rfl (by omega) (by omega)) rfl ?_
          refine ol_ev (ev_load rfl m1 k2) rfl ?_
          refine ol_slice1 rfl rfl rfl rfl fun b1 => ?_
          refine ol_append (xs := bcells f) (sp := sp) (ys := [bv data[i + 1]]) rfl rfl (fun _ _ => r1) m0 (by simp [bcells]) (by simp [bcells]) rfl rfl (by intro u hu; simp only [List.mem_singleton] at hu; subst hu; rfl) rfl (by omega) (by omega) rfl ?_
          intro b' sp'
          refine OL.less (List.sublist_cons_self _ _) ?_
          refine ol_ev (ev_assign rfl) rfl ?_; refine ol_nil ?_; refine cw_region ?_; refine ol_ev (ev_move rfl) rfl ?_; (refine ol_ev (ev_add rfl rfl ?_) rfl ?_; (constructor <;> omega)); refine ol_ev (ev_assign rfl) rfl ?_; refine ol_nil ?_
          refine ⟨(i + 2, b', f ++ [data[i + 1]], sp'), ⟨by show i + 2 ≤ data.length; omega, by show (f ++ [data[i + 1]]).length ≤ i + 2; simp; omega, ?_⟩, ⟨rfl, rfl, rfl, rfl, ?_, rfl, trivial⟩, ?_, by show data.length - (i + 2) < data.length - i; omega⟩
          · show fparse dl es data = (fparse dl es (data.drop (i + 2))).pre (f ++ [data[i + 1]]) (i + 2)
            rw [hpar, drop_two hlast, hb, fparse_escd, FP.pre_add]
          · show some (Value.slice _ _ _) = some (Value.slice _ _ _)
            simp [bcells]
          · show _ :: _ = _ :: _
            rw [bcells_append]; rfl
        · have hpe : fparse dl es data = .esc := by
            rw [hpar, List.drop_eq_getElem_cons hx, List.drop_of_length_le (by omega), hb]
            unfold fparse
            rw [if_pos rfl]; rfl
          refine sl_on rfl rfl rfl ?_; refine sl_ev (ev_move rfl) rfl ?_; refine sl_on rfl rfl rfl ?_; (refine sl_ev (ev_add rfl rfl ?_) rfl ?_; (constructor <;> omega)); refine sl_on rfl rfl rfl ?_; refine sl_ev (ev_move rfl) rfl ?_; refine sl_on rfl rfl rfl ?_; refine sl_ev (ev_len_s rfl) rfl ?_; refine sl_on rfl rfl rfl ?_; refine sl_ev (ev_lt rfl rfl) rfl ?_; refine sl_ev (ev_pick_t rfl rfl) rfl ?_; refine sl_ev (ev_assign rfl) rfl ?_; refine sl_nil ?_
          rw [decide_eq_false (show ¬ ((i : Nat) : Int) + 1 < ((data.length : Nat) : Int) by omega)]
          skip
          refine cw_if_f rfl ?_; refine cw_seq ?_
          refine cw_still mixed (by kernel_rfl) ?_
          refine sl_ev (ev_move rfl) rfl ?_; refine sl_ev (ev_move rfl) rfl ?_
          refine sl_ev (ev_idx1 rfl rfl (by omega) (by omega)) rfl ?_
          refine sl_ev (ev_load rfl m1 k1) rfl ?_
          refine sl_ev (ev_load rfl hE' rfl) rfl ?_
          refine sl_ev (ev_eq rfl rfl) rfl ?_; refine sl_ev (ev_move rfl) rfl ?_
          rw [decide_eq_true ((bv_dec _ _).2 hb)]
          cases atEOF with
          | true =>
            have hst : estep dl es s data true = ⟨0, none, some 7, ()⟩ := by unfold estep; rw [hpe]; rfl
            refine sl_on rfl rfl rfl ?_; refine sl_ev (ev_move rfl) rfl ?_; refine sl_ev (ev_pick_t rfl rfl) rfl ?_; refine sl_ev (ev_assign rfl) rfl ?_; refine sl_nil ?_
            refine cw_if_t rfl ?_; refine cw_seq ?_
            refine cw_still mixed (by kernel_rfl) ?_
            refine sl_ev (ev_loadW rfl hE.c7) rfl ?_
            (iterate 3 (refine sl_ev (ev_assign rfl) rfl ?_)); refine sl_nil ?_
            refine CW.perm (List.Perm.swap _ _ _) ?_
            refine cw_ret ?_
            refine ⟨_, res3 rfl rfl rfl rfl, ?_⟩
            rw [hst]
            exact ⟨_, (tb, ⟨bcells f ++ sp, 5, (0, 0)⟩) :: T, rfl, rfl, ⟨List.mem_cons_of_mem _ hI.1, List.mem_cons_of_mem _ hI.2⟩, fun _ _ h _ => List.mem_cons_of_mem _ h, rfl⟩
          | false =>
            have hst : estep dl es s data false = ⟨0, none, none, ()⟩ := by unfold estep; rw [hpe]; rfl
            refine sl_on rfl rfl rfl ?_; refine sl_ev (ev_move rfl) rfl ?_; refine sl_ev (ev_pick_t rfl rfl) rfl ?_; refine sl_ev (ev_assign rfl) rfl ?_; refine sl_nil ?_
            refine cw_if_f rfl ?_; refine cw_seq ?_
            refine cw_still mixed (by kernel_rfl) ?_
            refine sl_ev (ev_move rfl) rfl ?_; refine sl_ev (ev_move rfl) rfl ?_
            refine sl_ev (ev_idx1 rfl rfl (by omega) (by omega)) rfl ?_
            refine sl_ev (ev_load rfl m1 k1) rfl ?_
            refine sl_ev (ev_load rfl hE' rfl) rfl ?_
            refine sl_ev (ev_eq rfl rfl) rfl ?_; refine sl_ev (ev_assign rfl) rfl ?_; refine sl_nil ?_
            rw [decide_eq_true ((bv_dec _ _).2 hb)]
            skip
            refine CW.perm (List.Perm.swap _ _ _) ?_
            refine cw_if_t rfl ?_; refine cw_seq ?_; refine cw_region ?_; (iterate 3 (refine ol_ev (ev_assign rfl) rfl ?_)); refine ol_nil ?_; refine cw_ret ?_
            refine ⟨_, res3 rfl rfl rfl rfl, ?_⟩
            rw [hst]
            exact ⟨_, (tb, ⟨bcells f ++ sp, 5, (0, 0)⟩) :: T, rfl, rfl, ⟨List.mem_cons_of_mem _ hI.1, List.mem_cons_of_mem _ hI.2⟩, fun _ _ h _ => List.mem_cons_of_mem _ h, rfl⟩
      · have hbf : ¬ ((data[i].toNat : Nat) : Int) = ((es.toNat : Nat) : Int) := fun h => hb ((bv_dec _ _).1 h)
        rw [decide_eq_false hbf]
        (iterate 5 (refine sl_off rfl rfl rfl rfl rfl ?_)); refine sl_ev (ev_pick_f rfl rfl) rfl ?_; refine sl_ev (ev_assign rfl) rfl ?_; refine sl_nil ?_
        refine cw_if_f rfl ?_; refine cw_seq ?_
        refine cw_still mixed (by kernel_rfl) ?_
        refine sl_ev (ev_move rfl) rfl ?_; refine sl_ev (ev_move rfl) rfl ?_
        refine sl_ev (ev_idx1 rfl rfl (by omega) (by omega)) rfl ?_
        refine sl_ev (ev_load rfl m1 k1) rfl ?_
        refine sl_ev (ev_load rfl hE' rfl) rfl ?_
        refine sl_ev (ev_eq rfl rfl) rfl ?_; refine sl_ev (ev_move rfl) rfl ?_
        rw [decide_eq_false hbf]
        refine sl_off rfl rfl rfl rfl rfl ?_; refine sl_ev (ev_pick_f rfl rfl) rfl ?_; refine sl_ev (ev_assign rfl) rfl ?_; refine sl_nil ?_
        refine cw_if_f rfl ?_; refine cw_seq ?_
        refine cw_still mixed (by kernel_rfl) ?_
        refine sl_ev (ev_move rfl) rfl ?_; refine sl_ev (ev_move rfl) rfl ?_
        refine sl_ev (ev_idx1 rfl rfl (by omega) (by omega)) rfl ?_
        refine sl_ev (ev_load rfl m1 k1) rfl ?_
        refine sl_ev (ev_load rfl hE' rfl) rfl ?_
        refine sl_ev (ev_eq rfl rfl) rfl ?_; refine sl_ev (ev_assign rfl) rfl ?_; refine sl_nil ?_
        rw [decide_eq_false hbf]
        skip
        refine cw_if_f rfl ?_; refine cw_seq ?_
        refine cw_still mixed (by kernel_rfl) ?_
        refine sl_ev (ev_move rfl) rfl ?_; refine sl_ev (ev_move rfl) rfl ?_
        refine sl_ev (ev_idx1 rfl rfl (by omega) (by omega)) rfl ?_
        refine sl_ev (ev_load rfl m1 k1) rfl ?_
        refine sl_ev (ev_load rfl hD' rfl) rfl ?_
        refine sl_ev (ev_eq rfl rfl) rfl ?_; refine sl_ev (ev_assign rfl) rfl ?_; refine sl_nil ?_
        refine cw_ifd rfl (fun h3 => ?_) (fun h3 => ?_)
        · have hd : data[i] = dl := (bv_dec _ _).1 h3
          have hps : fparse dl es data = .stop f (i + 1) := by
            rw [hpar, List.drop_eq_getElem_cons hx, hd, fparse_delim (by rw [← hd]; exact hb)]
            simp [FP.pre]
          have hst : estep dl es s data atEOF = ⟨((i + 1 : Nat) : Int), some f, none, ()⟩ := by unfold estep; rw [hps]
          refine CW.perm (List.Perm.swap _ _ _) ?_
          refine cw_seq ?_; refine cw_region ?_; refine ol_ev (ev_move rfl) rfl ?_; (refine ol_ev (ev_add rfl rfl ?_) rfl ?_; (constructor <;> omega)); refine ol_ev (ev_move rfl) rfl ?_; (iterate 3 (refine ol_ev (ev_assign rfl) rfl ?_)); refine ol_nil ?_; refine cw_ret ?_
          refine ⟨_, res3 rfl rfl rfl rfl, ?_⟩
          rw [hst]
          refine ⟨_, (tb, ⟨bcells f ++ sp, 5, (0, 0)⟩) :: T, rfl, rfl, ⟨List.mem_cons_of_mem _ hI.1, List.mem_cons_of_mem _ hI.2⟩, fun _ _ h _ => List.mem_cons_of_mem _ h, tb, 0, _, _, rfl, m1, ?_, rfl, Nat.le_add_right _ _⟩
          show (bcells f ++ sp).take f.length = bcells f
          rw [show f.length = (bcells f).length by simp [bcells]]
          simp
        · have hd : data[i] ≠ dl := fun h => h3 ((bv_dec _ _).2 h)
          refine cw_region ?_; (iterate 3 (refine ol_ev (ev_move rfl) rfl ?_))
          refine ol_ev (ev_idx1 rfl rfl (by omega) (by omega)) rfl ?_
          refine ol_ev (ev_load rfl m1 k1) rfl ?_
          refine ol_slice1 rfl rfl rfl rfl fun b1 => ?_
          refine ol_append (xs := bcells f) (sp := sp) (ys := [bv data[i]]) rfl rfl (fun _ _ => r1) m0 (by simp [bcells]) (by simp [bcells]) rfl rfl (by intro u hu; simp only [List.mem_singleton] at hu; subst hu; rfl) rfl (by omega) (by omega) rfl ?_
          intro b' sp'
          refine OL.less (List.sublist_cons_self _ _) ?_
          refine ol_ev (ev_assign rfl) rfl ?_; refine ol_nil ?_; refine cw_region ?_; refine ol_ev (ev_move rfl) rfl ?_; (refine ol_ev (ev_add rfl rfl ?_) rfl ?_; (constructor <;> omega)); refine ol_ev (ev_assign rfl) rfl ?_; refine ol_nil ?_
          refine ⟨(i + 1, b', f ++ [data[i]], sp'), ⟨hx, by show (f ++ [data[i]]).length ≤ i + 1; simp; omega, ?_⟩, ⟨rfl, rfl, rfl, rfl, ?_, rfl, trivial⟩, ?_, by show data.length - (i + 1) < data.length - i; omega⟩
          · show fparse dl es data = (fparse dl es (data.drop (i + 1))).pre (f ++ [data[i]]) (i + 1)
            rw [hpar, List.drop_eq_getElem_cons hx, fparse_plain hb hd, FP.pre_add]
          · show some (Value.slice _ _ _) = some (Value.slice _ _ _)
            simp [bcells]
          · show _ :: _ = _ :: _
            rw [bcells_append]; rfl
    · refine cw_exit ?_
      refine ⟨tb, f, sp, ⟨rfl, rfl, rfl, trivial⟩, rfl, ?_⟩
      rw [hpar, List.drop_of_length_le (by omega)]
      simp [fparse, FP.pre]
  · rintro l' H' ⟨tb, f, sp, hl', rfl, hpo⟩
    refine CW.weak hl' ?_
    clear hl'
    refine CW.perm (List.Perm.swap _ _ _) ?_
    cases atEOF with
    | false =>
      have hst : estep dl es s data false = ⟨0, none, none, ()⟩ := by unfold estep; rw [hpo]; rfl
      refine cw_seq ?_; refine cw_seq ?_; refine cw_region ?_; refine ol_ev (ev_move rfl) rfl ?_; refine ol_nil ?_; refine cw_if_f rfl ?_; refine cw_skip ?_; refine cw_seq ?_; refine cw_region ?_; (iterate 3 (refine ol_ev (ev_assign rfl) rfl ?_)); refine ol_nil ?_; refine cw_ret ?_
      refine ⟨_, res3 rfl rfl rfl rfl, ?_⟩
      rw [hst]
      exact ⟨_, (tb, ⟨bcells f ++ sp, 5, (0, 0)⟩) :: T, rfl, rfl, ⟨List.mem_cons_of_mem _ hI.1, List.mem_cons_of_mem _ hI.2⟩, fun _ _ h _ => List.mem_cons_of_mem _ h, rfl⟩
    | true =>
      have hst : estep dl es s data true = ⟨data.length, some f, some 6, ()⟩ := by unfold estep; rw [hpo]; rfl
      refine cw_seq ?_; refine cw_seq ?_; refine cw_region ?_; refine ol_ev (ev_move rfl) rfl ?_; refine ol_nil ?_; refine cw_if_t rfl ?_; refine cw_seq ?_
      refine cw_still mixed (by kernel_rfl) ?_
      refine sl_ev (ev_move rfl) rfl ?_; refine sl_ev (ev_len_s rfl) rfl ?_; refine sl_ev (ev_move rfl) rfl ?_
      refine sl_ev (ev_loadW rfl hE.c6) rfl ?_
      (iterate 3 (refine sl_ev (ev_assign rfl) rfl ?_)); refine sl_nil ?_
      refine cw_ret ?_
      refine ⟨_, res3 rfl rfl rfl rfl, ?_⟩
      rw [hst]
      refine ⟨_, (tb, ⟨bcells f ++ sp, 5, (0, 0)⟩) :: T, rfl, rfl, ⟨List.mem_cons_of_mem _ hI.1, List.mem_cons_of_mem _ hI.2⟩, fun _ _ h _ => List.mem_cons_of_mem _ h, tb, 0, _, _, rfl, m1, ?_, rfl, Nat.le_add_right _ _⟩
      show (bcells f ++ sp).take f.length = bcells f
      rw [show f.length = (bcells f).length by simp [bcells]]
      simp

theorem fieldsF_ct (dl es : UInt8) :
    Ct Tryd.prog W 71 #[bv dl, bv es] [] (fun v H' => ∃ eb db, v = .func (.func 85) #[] [.pointer (some ⟨eb, 0, none⟩), .pointer (some ⟨db, 0, none⟩)].toArray ∧ H' = [(eb, ⟨[bv es], 5, (0, 0)⟩), (db, ⟨[bv dl], 5, (0, 0)⟩)]) := by
  refine ct_of_cw (vs := [_, _]) Tryd.func71 rfl rfl fun w1 => ?_
  refine cw_seq ?_; refine cw_region ?_
  refine ol_box rfl rfl fun db => ?_
  refine ol_box rfl rfl fun eb => ?_
  refine ol_ev (ev_assign rfl) rfl ?_; refine ol_nil ?_; refine cw_seq ?_; refine cw_region ?_; refine ol_ev (ev_mkfunc2 rfl rfl) rfl ?_; refine ol_ev (ev_assign rfl) rfl ?_; refine ol_nil ?_; refine cw_ret ?_
  exact ⟨_, res1 rfl rfl, eb, db, rfl, rfl⟩

end
end Go.HE

set_option maxRecDepth 100000
set_option maxHeartbeats 4000000
namespace Go.HE
open Go.RowKit Go.Proofs
section
variable {W : World} {E : Nat → Addr}
theorem specFields_ct (text : List UInt8) (dl es : UInt8) (ts : List (List UInt8)) (e : Option Nat) (hf : FieldsOf dl es text ts e) (hl : text.length ≤ 1099511627776) :
    Ct Tryd.prog W 33 #[str text, bv dl, bv es] [] (fun v H' => ∃ u, v = .agg #[u, .int .i64 (codeOf e)] ∧ StrsAt H' u ts) := by
  have hfold := ffold_of hf []
  rw [List.nil_append] at hfold
  refine ct_of_cw (vs := [_, _, _]) Tryd.func33 rfl rfl fun w1 => ?_
  refine cw_seq ?_; refine cw_region ?_
  refine ol_alloc rfl fun q0 => ?_
  refine ol_nil ?_; refine cw_seq ?_; refine cw_region ?_
  refine ol_slice0 rfl fun ob => ?_
  refine ol_ev (ev_build1 rfl rfl) rfl ?_
  refine ol_alloc rfl fun b7 => ?_
  refine ol_storeS (o := ⟨[.slice none 0 0, .int .i64 0], 41, (0, 0)⟩) (cs := [.slice (some ⟨ob, 0, none⟩) 0 0, .int .i64 0]) rfl rfl rfl (by simp [Value.oneCell']) u0 rfl rfl ?_
  refine ol_nil ?_; refine cw_seq ?_; refine cw_region ?_; refine ol_ev (ev_assign rfl) rfl ?_; refine ol_nil ?_; refine cw_seq ?_; refine cw_region ?_; refine ol_ev (ev_assign rfl) rfl ?_; refine ol_nil ?_; refine cw_seq ?_; refine cw_seq ?_; refine cw_region ?_; refine ol_ev (ev_assign rfl) rfl ?_; refine ol_nil ?_; refine cw_block ?_
  refine cw_loop (σ := Nat × Nat × List Value × List (List UInt8) × List UInt8 × Bool) (fun g => [(0, str text), (1, bv dl), (2, bv es), (6, .pointer (some ⟨q0, 0, none⟩)), (7, .pointer (some ⟨b7, 0, none⟩)), (8, str g.2.2.2.2.1), (9, .bool g.2.2.2.2.2), (10, .int .i64 (g.1 : Int))])
    (fun g => [(b7, ⟨[.slice (some ⟨g.2.1, 0, none⟩) g.2.2.2.1.length (g.2.2.2.1.length + g.2.2.1.length), .int .i64 0], 41, (0, 0)⟩), (g.2.1, strO g.2.2.2.1 g.2.2.1), (q0, ⟨[.slice none 0 0, .int .i64 0], 41, (0, 0)⟩)])
    (fun g => g.1 ≤ text.length ∧ g.2.2.2.1.length ≤ g.1 ∧ g.2.2.2.2.1.length ≤ g.1 ∧ ffold dl es (text.drop g.1) g.2.2.2.1 g.2.2.2.2.1 g.2.2.2.2.2 = (ts, e)) (fun g => text.length - g.1) (0, ob, [], [], [], false) ⟨Nat.zero_le _, by simp, by simp, by simpa using hfold⟩ (fun a ha => ha.weak ⟨rfl, rfl, rfl, rfl, rfl, rfl, rfl, rfl, trivial⟩) rfl ?_
  rintro ⟨i, ob, sp, ds, f, esc⟩ ⟨hi, hdl, hfl, hfo⟩
  simp only at hi hdl hfl hfo ⊢
  refine cw_seq ?_; refine cw_seq ?_; refine cw_region ?_; refine ol_ev (ev_move rfl) rfl ?_; refine ol_ev (ev_move rfl) rfl ?_; refine ol_ev (ev_len_str rfl) rfl ?_; refine ol_ev (ev_lt rfl rfl) rfl ?_; refine ol_nil ?_
  refine cw_ifd rfl (fun h2 => ?_) (fun h2 => ?_)
  · have hx : i < text.length := by omega
    have hc : text[((i : Nat) : Int).toNat]? = some text[i] := List.getElem?_eq_getElem hx
    rw [show text.drop i = text[i] :: text.drop (i + 1) from List.drop_eq_getElem_cons hx] at hfo
    cases esc with
    | true =>
      rw [ffold] at hfo
      refine cw_skip ?_; refine cw_seq ?_; refine cw_block ?_; refine cw_block ?_; refine cw_seq ?_; refine cw_region ?_; refine ol_ev (ev_move rfl) rfl ?_; refine ol_ev (ev_assign rfl) rfl ?_; refine ol_nil ?_; refine cw_if_t rfl ?_; refine cw_seq ?_; refine cw_region ?_; (iterate 4 (refine ol_ev (ev_move rfl) rfl ?_)); (refine ol_ev (ev_add rfl rfl ?_) rfl ?_; (constructor <;> omega))
      refine ol_ev (ev_slice_str rfl rfl rfl (by omega) (by omega) (by omega)) rfl ?_
      rw [sub_one hx]
      refine ol_ev (ev_concat rfl rfl (by simp only [List.length_singleton]; omega)) rfl ?_
      refine ol_ev (ev_assign rfl) rfl ?_; refine ol_nil ?_; refine cw_region ?_; refine ol_ev (ev_assign rfl) rfl ?_; refine ol_nil ?_; refine cw_region ?_; refine ol_ev (ev_move rfl) rfl ?_; (refine ol_ev (ev_add rfl rfl ?_) rfl ?_; (constructor <;> omega)); refine ol_ev (ev_assign rfl) rfl ?_; refine ol_nil ?_
      refine ⟨(i + 1, ob, sp, ds, f ++ [text[i]], false), ⟨hx, by show (ds).length ≤ i + 1; first | omega | (simp; omega), by show (f ++ [text[i]]).length ≤ i + 1; first | omega | (simp; omega), hfo⟩, ⟨rfl, rfl, rfl, rfl, rfl, rfl, rfl, rfl, trivial⟩, rfl, by show text.length - (i + 1) < text.length - i; omega⟩
    | false =>
      rw [ffold] at hfo
      refine cw_skip ?_; refine cw_seq ?_; refine cw_block ?_; refine cw_block ?_; refine cw_seq ?_; refine cw_region ?_; refine ol_ev (ev_move rfl) rfl ?_; refine ol_ev (ev_assign rfl) rfl ?_; refine ol_nil ?_; refine cw_if_f rfl ?_; refine cw_seq ?_; refine cw_region ?_; refine ol_ev (ev_move rfl) rfl ?_; refine ol_ev (ev_move rfl) rfl ?_
      refine ol_ev (ev_index_str rfl rfl (by omega) hc) rfl ?_
      refine ol_ev (ev_move rfl) rfl ?_; refine ol_ev (ev_eq rfl rfl) rfl ?_; refine ol_ev (ev_assign rfl) rfl ?_; refine ol_nil ?_
      refine cw_ifd rfl (fun h3 => ?_) (fun h3 => ?_)
      · rw [if_pos ((bv_dec _ _).1 h3)] at hfo
        refine cw_region ?_; refine ol_ev (ev_assign rfl) rfl ?_; refine ol_nil ?_; refine cw_region ?_; refine ol_ev (ev_move rfl) rfl ?_; (refine ol_ev (ev_add rfl rfl ?_) rfl ?_; (constructor <;> omega)); refine ol_ev (ev_assign rfl) rfl ?_; refine ol_nil ?_
        refine ⟨(i + 1, ob, sp, ds, f, true), ⟨hx, by show (ds).length ≤ i + 1; first | omega | (simp; omega), by show (f).length ≤ i + 1; first | omega | (simp; omega), hfo⟩, ⟨rfl, rfl, rfl, rfl, rfl, rfl, rfl, rfl, trivial⟩, rfl, by show text.length - (i + 1) < text.length - i; omega⟩
      · rw [if_neg (fun h => h3 ((bv_dec _ _).2 h))] at hfo
        refine cw_seq ?_; refine cw_region ?_; refine ol_ev (ev_move rfl) rfl ?_; refine ol_ev (ev_move rfl) rfl ?_
        refine ol_ev (ev_index_str rfl rfl (by omega) hc) rfl ?_
        refine ol_ev (ev_move rfl) rfl ?_; refine ol_ev (ev_eq rfl rfl) rfl ?_; refine ol_ev (ev_assign rfl) rfl ?_; refine ol_nil ?_
        refine cw_ifd rfl (fun h4 => ?_) (fun h4 => ?_)
        · rw [if_pos ((bv_dec _ _).1 h4)] at hfo
          refine cw_seq ?_; refine cw_region ?_; refine ol_ev (ev_fld rfl) rfl ?_; refine ol_ev (ev_load rfl m0 rfl) rfl ?_; refine ol_ev (ev_move rfl) rfl ?_
          refine ol_slice1 rfl rfl rfl rfl fun b1 => ?_
          refine ol_append (xs := ds.map str) (sp := sp) (ys := [str f]) rfl rfl (fun _ _ => r2) m0 (by simp) (by simp) rfl rfl (by intro u hu; simp only [List.mem_singleton] at hu; subst hu; rfl) rfl (by omega) (by omega) rfl ?_
          intro b' sp'
          refine OL.less (List.sublist_cons_self _ _) ?_
          have e1 : (ds.map str ++ [str f]).length = ds.length + 1 := by simp
          have e2 : ds.map str ++ [str f] = (ds ++ [f]).map str := by simp
          rw [e1, e2]
          refine ol_ev (ev_fld rfl) rfl ?_; refine ol_store rfl rfl rfl u0 rfl rfl ?_; refine ol_nil ?_; refine cw_region ?_; refine ol_ev (ev_assign rfl) rfl ?_; refine ol_nil ?_; refine cw_region ?_; refine ol_ev (ev_move rfl) rfl ?_; (refine ol_ev (ev_add rfl rfl ?_) rfl ?_; (constructor <;> omega)); refine ol_ev (ev_assign rfl) rfl ?_; refine ol_nil ?_
          refine ⟨(i + 1, b', sp', ds ++ [f], [], false), ⟨hx, by show (ds ++ [f]).length ≤ i + 1; simp; omega, by simp, hfo⟩, ⟨rfl, rfl, rfl, rfl, rfl, rfl, rfl, rfl, trivial⟩, ?_, by show text.length - (i + 1) < text.length - i; omega⟩
          have e3 : (ds ++ [f]).length = ds.length + 1 := by simp
          simp only [e3]
          rfl
        · rw [if_neg (fun h => h4 ((bv_dec _ _).2 h))] at hfo
          refine cw_region ?_; (iterate 4 (refine ol_ev (ev_move rfl) rfl ?_)); (refine ol_ev (ev_add rfl rfl ?_) rfl ?_; (constructor <;> omega))
          refine ol_ev (ev_slice_str rfl rfl rfl (by omega) (by omega) (by omega)) rfl ?_
          rw [sub_one hx]
          refine ol_ev (ev_concat rfl rfl (by simp only [List.length_singleton]; omega)) rfl ?_
          refine ol_ev (ev_assign rfl) rfl ?_; refine ol_nil ?_; refine cw_region ?_; refine ol_ev (ev_move rfl) rfl ?_; (refine ol_ev (ev_add rfl rfl ?_) rfl ?_; (constructor <;> omega)); refine ol_ev (ev_assign rfl) rfl ?_; refine ol_nil ?_
          refine ⟨(i + 1, ob, sp, ds, f ++ [text[i]], false), ⟨hx, by show (ds).length ≤ i + 1; first | omega | (simp; omega), by show (f ++ [text[i]]).length ≤ i + 1; first | omega | (simp; omega), hfo⟩, ⟨rfl, rfl, rfl, rfl, rfl, rfl, rfl, rfl, trivial⟩, rfl, by show text.length - (i + 1) < text.length - i; omega⟩
  · have hend : text.drop i = [] := List.drop_of_length_le (by omega)
    rw [hend, ffold] at hfo
    cases esc with
    | true =>
      rw [if_pos rfl] at hfo
      obtain ⟨rfl, rfl⟩ := Prod.ext_iff.1 hfo
      refine cw_exit ?_; refine cw_seq ?_; refine cw_seq ?_; refine cw_region ?_; refine ol_ev (ev_move rfl) rfl ?_; refine ol_nil ?_; refine cw_if_t rfl ?_; refine cw_seq ?_; refine cw_region ?_; refine ol_ev (ev_fld rfl) rfl ?_; refine ol_store rfl rfl rfl u0 rfl rfl ?_; refine ol_nil ?_; refine cw_seq ?_; refine cw_region ?_
      refine ol_ev (ev_loadS (cs := [.slice (some ⟨ob, 0, none⟩) ds.length (ds.length + sp.length), .int .i64 4]) rfl rfl m0 rfl) rfl ?_
      refine ol_storeS (o := ⟨[.slice none 0 0, .int .i64 0], 41, (0, 0)⟩) (cs := [.slice (some ⟨ob, 0, none⟩) ds.length (ds.length + sp.length), .int .i64 4]) rfl rfl rfl (by simp [Value.oneCell']) u2 rfl rfl ?_
      refine ol_nil ?_; refine cw_ret ?_
      exact ⟨_, resC (cs := [.slice (some ⟨ob, 0, none⟩) ds.length (ds.length + sp.length), .int .i64 4]) rfl rfl rfl m2 rfl, _, rfl, ob, ds.length + sp.length, sp, rfl, m1, Nat.le_add_right _ _⟩
    | false =>
      rw [if_neg (by simp)] at hfo
      obtain ⟨rfl, rfl⟩ := Prod.ext_iff.1 hfo
      refine cw_exit ?_; refine cw_seq ?_; refine cw_seq ?_; refine cw_region ?_; refine ol_ev (ev_move rfl) rfl ?_; refine ol_nil ?_; refine cw_if_f rfl ?_; refine cw_skip ?_; refine cw_seq ?_; refine cw_region ?_; refine ol_ev (ev_fld rfl) rfl ?_; refine ol_ev (ev_load rfl m0 rfl) rfl ?_; refine ol_ev (ev_move rfl) rfl ?_
      refine ol_slice1 rfl rfl rfl rfl fun b1 => ?_
      refine ol_append (xs := ds.map str) (sp := sp) (ys := [str f]) rfl rfl (fun _ _ => r2) m0 (by simp) (by simp) rfl rfl (by intro u hu; simp only [List.mem_singleton] at hu; subst hu; rfl) rfl (by omega) (by omega) rfl ?_
      intro b' sp'
      refine OL.less (List.sublist_cons_self _ _) ?_
      have e1 : (ds.map str ++ [str f]).length = ds.length + 1 := by simp
      have e2 : ds.map str ++ [str f] = (ds ++ [f]).map str := by simp
      rw [e1, e2]
      refine ol_ev (ev_fld rfl) rfl ?_; refine ol_store rfl rfl rfl u0 rfl rfl ?_; refine ol_nil ?_; refine cw_seq ?_; refine cw_region ?_
      refine ol_ev (ev_loadS (cs := [.slice (some ⟨b', 0, none⟩) (ds.length + 1) (ds.length + 1 + sp'.length), .int .i64 0]) rfl rfl m0 rfl) rfl ?_
      refine ol_storeS (o := ⟨[.slice none 0 0, .int .i64 0], 41, (0, 0)⟩) (cs := [.slice (some ⟨b', 0, none⟩) (ds.length + 1) (ds.length + 1 + sp'.length), .int .i64 0]) rfl rfl rfl (by simp [Value.oneCell']) u2 rfl rfl ?_
      refine ol_nil ?_; refine cw_ret ?_
      refine ⟨_, resC (cs := [.slice (some ⟨b', 0, none⟩) (ds.length + 1) (ds.length + 1 + sp'.length), .int .i64 0]) rfl rfl rfl m2 rfl, _, rfl, b', ds.length + 1 + sp'.length, sp', ?_, m1, ?_⟩
      · simp
      · simp
end
end Go.HE
