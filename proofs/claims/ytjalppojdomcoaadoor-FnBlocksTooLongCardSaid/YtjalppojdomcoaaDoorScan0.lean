/- The small methods of the Scanner of package bufio, by contracts. Condition: the errors are as start-up lays them; lengths below 2 to the 62nd. -/
import Derived.Test.YtjalppojdomcoaaDoorRead
set_option maxRecDepth 100000
set_option maxHeartbeats 4000000
namespace Go.HE
open Go.RowKit Go.Proofs

/-- A Scanner's fields. -/
structure Sc where
  rb : Nat
  sv : Value
  mx : Int
  tok : Value
  buf : Value
  start : Nat
  end_ : Nat
  err : Option Nat
  emp : Nat
  called : Bool
  done : Bool

def scL (E : Nat → Addr) (rb : Nat) (sv : Value) (mx : Int) (tok buf : Value) (start end_ : Nat) (err : Option Nat) (emp : Nat) (called done : Bool) : HO :=
  ⟨[.iface 63 (.pointer (some ⟨rb, 0, none⟩)), sv, .int .i64 mx, tok, buf, .int .i64 (start : Int), .int .i64 (end_ : Int), errO E err, .int .i64 (emp : Int), .bool called, .bool done], 75, (0, 0)⟩

def Sc.ho (E : Nat → Addr) (s : Sc) : HO := scL E s.rb s.sv s.mx s.tok s.buf s.start s.end_ s.err s.emp s.called s.done

/-- The first error that is not io.EOF stays. -/
def setE (e : Option Nat) (c : Nat) : Option Nat := if e = none ∨ e = some 0 then some c else e

variable {W : World} {E : Nat → Addr}

theorem errO_one (e : Option Nat) : (errO E e).oneCell' = true := by cases e <;> rfl

theorem setErr_ct (hE : Errs W E) (s : Sc) (sb c : Nat) (he : ∀ k, s.err = some k → k < 9) :
    Ct Tryd.prog W 43 #[.pointer (some ⟨sb, 0, none⟩), errv E c] [(sb, s.ho E)] (fun _ H' => H' = [(sb, ({ s with err := setE s.err c } : Sc).ho E)]) := by
  obtain ⟨rb, sv, mx, tok, buf, start, end_, err, emp, called, done⟩ := s
  simp only at he
  show Ct _ _ _ _ [(sb, scL E rb sv mx tok buf start end_ err emp called done)] _
  refine ct_of_cw (vs := [_, _]) Tryd.func43 rfl rfl fun w1 => ?_
  refine cw_seq (cw_still mixed (by kernel_rfl) ?_)
  refine sl_ev (ev_move rfl) rfl ?_; refine sl_ev (ev_nilP rfl) rfl ?_; refine sl_ev (ev_fld rfl) rfl ?_; refine sl_ev (ev_load rfl m0 rfl) rfl ?_
  refine sl_ev (ev_eqO (E := E) rfl) rfl ?_
  by_cases h1 : err = none
  · subst h1
    rw [decide_eq_true rfl]
    refine sl_ev (ev_move rfl) rfl ?_; (iterate 6 (refine sl_off rfl rfl rfl rfl rfl ?_)); refine sl_ev (ev_pick_t rfl rfl) rfl ?_; refine sl_nil ?_
    refine cw_if_t rfl ?_; refine cw_region ?_; refine ol_ev (ev_move rfl) rfl ?_; refine ol_ev (ev_move rfl) rfl ?_; refine ol_ev (ev_nilP rfl) rfl ?_; refine ol_ev (ev_fld rfl) rfl ?_; refine ol_store rfl rfl rfl u0 rfl rfl ?_; refine ol_nil ?_
    exact ⟨_, res0 rfl, rfl⟩
  · rw [decide_eq_false h1]
    refine sl_ev (ev_move rfl) rfl ?_; refine sl_on rfl rfl rfl ?_; refine sl_ev (ev_move rfl) rfl ?_; refine sl_on rfl rfl rfl ?_; refine sl_ev (ev_nilP rfl) rfl ?_; refine sl_on rfl rfl rfl ?_; refine sl_ev (ev_fld rfl) rfl ?_; refine sl_on rfl rfl rfl ?_; refine sl_ev (ev_load rfl m0 rfl) rfl ?_; refine sl_on rfl rfl rfl ?_
    refine sl_ev (ev_loadW rfl hE.c0) rfl ?_
    refine sl_on rfl rfl rfl ?_
    refine sl_ev (ev_eqOE hE rfl rfl he rfl) rfl ?_
    by_cases h2 : err = some 0
    · subst h2
      rw [decide_eq_true rfl]
      refine sl_ev (ev_pick_f rfl rfl) rfl ?_; refine sl_nil ?_
      refine cw_if_t rfl ?_; refine cw_region ?_; refine ol_ev (ev_move rfl) rfl ?_; refine ol_ev (ev_move rfl) rfl ?_; refine ol_ev (ev_nilP rfl) rfl ?_; refine ol_ev (ev_fld rfl) rfl ?_; refine ol_store rfl rfl rfl u0 rfl rfl ?_; refine ol_nil ?_
      exact ⟨_, res0 rfl, rfl⟩
    · rw [decide_eq_false h2]
      refine sl_ev (ev_pick_f rfl rfl) rfl ?_; refine sl_nil ?_
      refine cw_if_f rfl ?_; refine cw_skip ?_
      refine ⟨_, res0 rfl, ?_⟩
      simp only [setE, h1, h2, or_self, if_false]
      rfl

theorem advance_ct (hE : Errs W E) (s : Sc) (sb : Nat) (n : Int) (he : ∀ k, s.err = some k → k < 9) (h1 : s.start ≤ s.end_) (h2 : s.end_ ≤ 4611686018427387904) :
    Ct Tryd.prog W 44 #[.pointer (some ⟨sb, 0, none⟩), .int .i64 n] [(sb, s.ho E)]
      (fun v H' => (n < 0 ∧ v = .bool false ∧ H' = [(sb, ({ s with err := setE s.err 3 } : Sc).ho E)]) ∨ (0 ≤ n ∧ ((s.end_ : Int) - s.start) < n ∧ v = .bool false ∧ H' = [(sb, ({ s with err := setE s.err 4 } : Sc).ho E)]) ∨
        (0 ≤ n ∧ n ≤ (s.end_ : Int) - s.start ∧ v = .bool true ∧ H' = [(sb, ({ s with start := s.start + n.toNat } : Sc).ho E)])) := by
  obtain ⟨rb, sv, mx, tok, buf, start, end_, err, emp, called, done⟩ := s
  simp only at he h1 h2 ⊢
  have hse := setErr_ct hE ⟨rb, sv, mx, tok, buf, start, end_, err, emp, called, done⟩ sb
  show Ct _ _ _ _ [(sb, scL E rb sv mx tok buf start end_ err emp called done)] _
  refine ct_of_cw (vs := [_, _]) Tryd.func44 rfl rfl fun w1 => ?_
  refine cw_seq ?_; refine cw_region ?_; refine ol_ev (ev_assign rfl) rfl ?_; refine ol_nil ?_; refine cw_seq ?_; refine cw_seq ?_; refine cw_region ?_; refine ol_ev (ev_move rfl) rfl ?_; refine ol_ev (ev_lt rfl rfl) rfl ?_; refine ol_nil ?_
  refine cw_ifd rfl (fun h => ?_) (fun h => ?_)
  · refine cw_seq ?_; refine cw_region ?_; refine ol_ev (ev_move rfl) rfl ?_
    refine ol_ev (ev_loadW rfl hE.c3) rfl ?_
    refine ol_call2 (R := []) (cap := []) rfl rfl rfl rfl (hse 3 he) (List.Perm.refl _) ?_
    rintro v G' rfl
    refine ol_nil ?_; refine cw_seq ?_; refine cw_region ?_; refine ol_ev (ev_assign rfl) rfl ?_; refine ol_nil ?_; refine cw_ret ?_
    exact ⟨_, res1 rfl rfl, .inl ⟨h, rfl, rfl⟩⟩
  · refine cw_skip ?_; refine cw_seq ?_; refine cw_seq ?_
    refine cw_still mixed (by kernel_rfl) ?_
    refine sl_ev (ev_move rfl) rfl ?_; refine sl_ev (ev_move rfl) rfl ?_; refine sl_ev (ev_nilP rfl) rfl ?_; refine sl_ev (ev_fld rfl) rfl ?_; refine sl_ev (ev_load rfl m0 rfl) rfl ?_; refine sl_ev (ev_move rfl) rfl ?_; refine sl_ev (ev_nilP rfl) rfl ?_; refine sl_ev (ev_fld rfl) rfl ?_; refine sl_ev (ev_load rfl m0 rfl) rfl ?_; (refine sl_ev (ev_sub rfl rfl ?_) rfl ?_; (constructor <;> omega)); refine sl_ev (ev_gt rfl rfl) rfl ?_; refine sl_nil ?_
    refine cw_ifd rfl (fun h' => ?_) (fun h' => ?_)
    · refine cw_seq ?_; refine cw_region ?_; refine ol_ev (ev_move rfl) rfl ?_
      refine ol_ev (ev_loadW rfl hE.c4) rfl ?_
      refine ol_call2 (R := []) (cap := []) rfl rfl rfl rfl (hse 4 he) (List.Perm.refl _) ?_
      rintro v G' rfl
      refine ol_nil ?_; refine cw_seq ?_; refine cw_region ?_; refine ol_ev (ev_assign rfl) rfl ?_; refine ol_nil ?_; refine cw_ret ?_
      exact ⟨_, res1 rfl rfl, .inr (.inl ⟨by omega, h', rfl, rfl⟩)⟩
    · obtain ⟨m, rfl⟩ := Int.eq_ofNat_of_zero_le (by omega : 0 ≤ n)
      refine cw_skip ?_; refine cw_seq ?_; refine cw_region ?_; refine ol_ev (ev_move rfl) rfl ?_; refine ol_ev (ev_nilP rfl) rfl ?_; refine ol_ev (ev_fld rfl) rfl ?_; refine ol_ev (ev_load rfl m0 rfl) rfl ?_; refine ol_ev (ev_move rfl) rfl ?_; (refine ol_ev (ev_add rfl rfl ?_) rfl ?_; (constructor <;> omega)); refine ol_ev (ev_nilP rfl) rfl ?_; refine ol_ev (ev_fld rfl) rfl ?_; refine ol_store rfl rfl rfl u0 rfl rfl ?_; refine ol_nil ?_; refine cw_seq ?_; refine cw_region ?_; refine ol_ev (ev_assign rfl) rfl ?_; refine ol_nil ?_; refine cw_ret ?_
      exact ⟨_, res1 rfl rfl, .inr (.inr ⟨by omega, by omega, rfl, rfl⟩)⟩

theorem Err_ct (hE : Errs W E) (s : Sc) (sb : Nat) (he : ∀ k, s.err = some k → k < 9) :
    Ct Tryd.prog W 36 #[.pointer (some ⟨sb, 0, none⟩)] [(sb, s.ho E)] (fun v H' => v = errO E (if s.err = some 0 then none else s.err) ∧ H' = [(sb, s.ho E)]) := by
  obtain ⟨rb, sv, mx, tok, buf, start, end_, err, emp, called, done⟩ := s
  simp only at he ⊢
  refine ct_of_cw (vs := [_]) Tryd.func36 rfl rfl fun w1 => ?_
  refine cw_seq ?_; refine cw_region ?_; refine ol_ev (ev_assign rfl) rfl ?_; refine ol_nil ?_; refine cw_seq ?_; refine cw_seq ?_
  refine cw_still mixed (by kernel_rfl) ?_
  refine sl_ev (ev_move rfl) rfl ?_; refine sl_ev (ev_nilP rfl) rfl ?_; refine sl_ev (ev_fld rfl) rfl ?_; refine sl_ev (ev_load rfl m0 rfl) rfl ?_
  refine sl_ev (ev_loadW rfl hE.c0) rfl ?_
  refine sl_ev (ev_eqOE hE rfl rfl he rfl) rfl (sl_nil (cw_ifd rfl (fun h => ?_) (fun h => ?_)))
  · refine cw_seq ?_; refine cw_region ?_; refine ol_ev (ev_assign rfl) rfl ?_; refine ol_nil ?_; refine cw_ret ?_
    exact ⟨_, res1 rfl rfl, by rw [if_pos h]; rfl, rfl⟩
  · refine cw_skip ?_; refine cw_seq ?_; refine cw_region ?_; refine ol_ev (ev_move rfl) rfl ?_; refine ol_ev (ev_nilP rfl) rfl ?_; refine ol_ev (ev_fld rfl) rfl ?_; refine ol_ev (ev_load rfl m0 rfl) rfl ?_; refine ol_ev (ev_assign rfl) rfl ?_; refine ol_nil ?_; refine cw_ret ?_
    exact ⟨_, res1 rfl rfl, by rw [if_neg h], rfl⟩

/-- A token that lies in one of the blocks H. -/
def TokAt (H : Heap) (tv : Value) (t : List UInt8) : Prop :=
  ∃ b off cap o, tv = .slice (some ⟨b, off, none⟩) t.length cap ∧ (b, o) ∈ H ∧ (o.cells.drop off).take t.length = bcells t ∧ o.elem = 5

theorem Text_ct (s : Sc) (sb : Nat) (H : Heap) (t : List UInt8) (ht : TokAt H s.tok t) :
    Ct Tryd.prog W 35 #[.pointer (some ⟨sb, 0, none⟩)] ((sb, s.ho E) :: H) (fun v H' => v = str t ∧ H' = (sb, s.ho E) :: H) := by
  obtain ⟨rb, sv, mx, tok, buf, start, end_, err, emp, called, done⟩ := s
  obtain ⟨b, off, cap, o, ht1, ht2, ht3, _⟩ := ht
  simp only at ht1
  subst ht1
  refine ct_of_cw (vs := [_]) Tryd.func35 rfl rfl fun w1 => ?_
  refine cw_seq ?_; refine cw_region ?_; refine ol_ev (ev_assign rfl) rfl ?_; refine ol_nil ?_; refine cw_seq ?_; refine cw_region ?_; refine ol_ev (ev_move rfl) rfl ?_; refine ol_ev (ev_nilP rfl) rfl ?_; refine ol_ev (ev_fld rfl) rfl ?_; refine ol_ev (ev_load rfl m0 rfl) rfl ?_
  refine ol_ev (ev_str_bytes rfl (List.mem_cons_of_mem _ ht2) ht3) rfl ?_
  refine ol_ev (ev_assign rfl) rfl ?_; refine ol_nil ?_; refine cw_ret ?_
  exact ⟨_, res1 rfl rfl, rfl, rfl⟩

theorem Text_nil_ct (s : Sc) (sb : Nat) (H : Heap) (ht : s.tok = .slice none 0 0) :
    Ct Tryd.prog W 35 #[.pointer (some ⟨sb, 0, none⟩)] ((sb, s.ho E) :: H) (fun v H' => v = str [] ∧ H' = (sb, s.ho E) :: H) := by
  obtain ⟨rb, sv, mx, tok, buf, start, end_, err, emp, called, done⟩ := s
  simp only at ht
  subst ht
  refine ct_of_cw (vs := [_]) Tryd.func35 rfl rfl fun w1 => ?_
  refine cw_seq ?_; refine cw_region ?_; refine ol_ev (ev_assign rfl) rfl ?_; refine ol_nil ?_; refine cw_seq ?_; refine cw_region ?_; refine ol_ev (ev_move rfl) rfl ?_; refine ol_ev (ev_nilP rfl) rfl ?_; refine ol_ev (ev_fld rfl) rfl ?_; refine ol_ev (ev_load rfl m0 rfl) rfl ?_
  refine ol_ev (ev_str_nil rfl) rfl ?_
  refine ol_ev (ev_assign rfl) rfl ?_; refine ol_nil ?_; refine cw_ret ?_
  exact ⟨_, res1 rfl rfl, rfl, rfl⟩
end Go.HE
