/- The package-level errors as values: their equality, errors.Is and impl.code by contracts. Condition of the contracts: the nine errors are as start-up lays them (Errs). -/
import Derived.Test.YtjalppojdomcoaaDoorInst
import Derived.Test.YtjalppojdomcoaaDoorMem
import Derived.LaidEql
import Derived.Stop.Asserts
import Derived.RowKitTokens
set_option maxRecDepth 100000
set_option maxHeartbeats 4000000
namespace Go.HE
open Go.RowKit Go.Extern.Stop Go.Stop Go.Extern Go.Proofs

/-- Numbers of our own for the errors: 0 io.EOF, 1 io.ErrNoProgress, 2 ErrTooLong, 3 ErrNegativeAdvance, 4 ErrAdvanceTooFar, 5 ErrBadReadCount, 6 ErrFinalToken, 7 impl.errSplit, 8 impl.errRead. -/
def errv (E : Nat → Addr) (c : Nat) : Value := .iface 92 (.pointer (some (E c)))

structure Errs (W : World) (E : Nat → Addr) : Prop where
  c0 : W.cell? ⟨8, 0, none⟩ = some (errv E 0)
  c1 : W.cell? ⟨7, 0, none⟩ = some (errv E 1)
  c2 : W.cell? ⟨0, 0, none⟩ = some (errv E 2)
  c3 : W.cell? ⟨1, 0, none⟩ = some (errv E 3)
  c4 : W.cell? ⟨2, 0, none⟩ = some (errv E 4)
  c5 : W.cell? ⟨6, 0, none⟩ = some (errv E 5)
  c6 : W.cell? ⟨5, 0, none⟩ = some (errv E 6)
  c7 : W.cell? ⟨3, 0, none⟩ = some (errv E 7)
  c8 : W.cell? ⟨4, 0, none⟩ = some (errv E 8)
  blk : ∀ c, c < 9 → ∃ cs t, W.heap[(E c).block]? = some (.cells cs t (0, 0))
  inj : ∀ c d, c < 9 → d < 9 → c ≠ d → E c ≠ E d

/-- An error or none. -/
def errO (E : Nat → Addr) : Option Nat → Value
  | none => .nilIface
  | some c => errv E c

theorem Errs.low {W w1 w : World} {D : List Nat} {H : Heap} {E : Nat → Addr} (h : Errs W E) (hw : St W w1 D H w) {c : Nat} (hc : c < 9) : ∃ cs t, w.heap[(E c).block]? = some (.cells cs t (0, 0)) := by
  obtain ⟨cs, t, hb⟩ := h.blk c hc
  exact ⟨cs, t, by rw [hw.low.block _ (Array.getElem?_eq_some_iff.1 hb).1, hb]⟩

theorem Errs.low' {W w : World} {E : Nat → Addr} (h : Errs W E) (hw : Below W.heap.size W w) {c : Nat} (hc : c < 9) : ∃ cs t, w.heap[(E c).block]? = some (.cells cs t (0, 0)) := by
  obtain ⟨cs, t, hb⟩ := h.blk c hc
  exact ⟨cs, t, by rw [hw.block _ (Array.getElem?_eq_some_iff.1 hb).1, hb]⟩

theorem errComp : (Tryd.prog.info? 92).map (·.comparable) = some true := by kernel_rfl
theorem errSize : (Tryd.prog.info? 117).map (·.size) = some 1 := by kernel_rfl

theorem run_eql_err {W w : World} {E : Nat → Addr} (h : Errs W E) (hw : Below W.heap.size W w) {c d : Nat} (hc : c < 9) (hd : d < 9) :
    (binOp .eql 49 (errv E c) (errv E d)).run Tryd.prog w = .ok (.bool (decide (c = d))) w := by
  obtain ⟨i, hi, hcmp⟩ := Option.map_eq_some_iff.1 errComp
  obtain ⟨j, hj, hjs⟩ := Option.map_eq_some_iff.1 errSize
  by_cases e : c = d
  · subst e
    rw [decide_eq_true rfl]
    exact run_eql_iface_ptr_same w (E c) Tryd.underlying49 Tryd.underlying92 hi hcmp hj
  · rw [decide_eq_false e]
    obtain ⟨cs, t, hb⟩ := h.low' hw hc
    obtain ⟨cs', t', hb'⟩ := h.low' hw hd
    exact run_eql_iface_ptr_other w Tryd.underlying49 Tryd.underlying92 hi hcmp hj (by rw [hjs]; decide) (h.inj c d hc hd e) hb hb'

theorem ev_eqE {C : Cx} {H : Heap} {l : Env} {ty yt : TypeId} {x y : Operand} {E : Nat → Addr} {c d : Nat} (h : Errs C.W E) (hx : ev l x = some (errv E c)) (hy : ev l y = some (errv E d)) (hc : Nat.ble (c + 1) 9 = true) (hd : Nat.ble (d + 1) 9 = true) :
    Ev Tryd.prog C H l (.binOp .eql 49 x y yt) ty (.bool (decide (c = d))) :=
  ev_bin hx hy (fun _ _ => by simp [eqGuard, errv]) (fun w hw => run_eql_err h hw.low (Nat.le_of_ble_eq_true hc) (Nat.le_of_ble_eq_true hd))
theorem ev_eqNE {C : Cx} {H : Heap} {l : Env} {ty yt u : TypeId} {v : Value} {x y : Operand} (hx : ev l x = some .nilIface) (hy : ev l y = some (.iface u v)) :
    Ev Tryd.prog C H l (.binOp .eql 49 x y yt) ty (.bool false) :=
  ev_bin hx hy (fun _ _ => by simp [eqGuard]) (fun w _ => run_eql_iface_nil_left w u v Tryd.underlying49)
/-- An error or none against a package-level error. -/
theorem ev_eqOE {C : Cx} {H : Heap} {l : Env} {ty yt : TypeId} {x y : Operand} {E : Nat → Addr} {c : Option Nat} {d : Nat} (h : Errs C.W E) (hx : ev l x = some (errO E c)) (hy : ev l y = some (errv E d)) (hc : ∀ k, c = some k → k < 9) (hd : Nat.ble (d + 1) 9 = true) :
    Ev Tryd.prog C H l (.binOp .eql 49 x y yt) ty (.bool (decide (c = some d))) := by
  cases c with
  | none => simpa using ev_eqNE (C := C) (H := H) (ty := ty) (yt := yt) hx hy
  | some k => simpa using ev_eqE (C := C) (H := H) (ty := ty) (yt := yt) h (c := k) hx hy (Nat.ble_eq_true_of_le (hc k rfl)) hd
theorem ev_eqO {C : Cx} {H : Heap} {l : Env} {ty yt : TypeId} {x : Operand} {E : Nat → Addr} {c : Option Nat} (hx : ev l x = some (errO E c)) :
    Ev Tryd.prog C H l (.binOp .eql 49 x (.const .nilIface) yt) ty (.bool (decide (c = none))) := by
  cases c with
  | none => simpa using ev_eqnil_n (P := Tryd.prog) (C := C) (H := H) (ty := ty) (yt := yt) (t := 49) hx
  | some k => simpa using ev_eqnil_i (P := Tryd.prog) (C := C) (H := H) (ty := ty) (yt := yt) (t := 49) hx
theorem ev_neO {C : Cx} {H : Heap} {l : Env} {ty yt : TypeId} {x : Operand} {E : Nat → Addr} {c : Option Nat} (hx : ev l x = some (errO E c)) :
    Ev Tryd.prog C H l (.binOp .neq 49 x (.const .nilIface) yt) ty (.bool (decide (c ≠ none))) := by
  cases c with
  | none => simpa using ev_nenil_n (P := Tryd.prog) (C := C) (H := H) (ty := ty) (yt := yt) (t := 49) hx
  | some k => simpa using ev_nenil_i (P := Tryd.prog) (C := C) (H := H) (ty := ty) (yt := yt) (t := 49) hx

/-! errors.Is, after the guide's worked text. -/
theorem isTypeOf (v : Value) (w : World) : (Extern.ReflectliteType.typeOf #[.iface 92 v]).run Tryd.prog w = .ok (.iface 81 (.agg #[.pointer (some ⟨Tryd.prog.globals.size, 92, none⟩)])) w := by kernel_rfl
theorem isComparable (w : World) : ((Extern.ReflectliteType.method fun t => do Extern.Rtype.noPackHeld "Comparable" t; pure (.bool (← typeInfo t).comparable)) #[.agg #[.pointer (some ⟨Tryd.prog.globals.size, 92, none⟩)]]).run Tryd.prog w = .ok (.bool true) w := by kernel_rfl
theorem isMethodComparable (v : Value) (w : World) : (Go.method (Tryd.prog.types.size + Made.depth) 81 v "Comparable").run Tryd.prog w = .ok (68, v) w := by kernel_rfl
theorem noIsE (v : Value) (xT : TypeId) (w : World) : (Instr.typeAssert (.iface 92 v) xT 83 true).run Tryd.prog w = .ok (.tuple #[.nilIface, .bool false]) w := run_typeAssert_lacksB Tryd.underlying83 (by kernel_rfl) (by kernel_rfl) v xT w
theorem noUnwrapE (v : Value) (xT : TypeId) (w : World) : (Instr.typeAssert (.iface 92 v) xT 86 true).run Tryd.prog w = .ok (.tuple #[.nilIface, .bool false]) w := run_typeAssert_lacksB Tryd.underlying86 (by kernel_rfl) (by kernel_rfl) v xT w
theorem noUnwrapsE (v : Value) (xT : TypeId) (w : World) : (Instr.typeAssert (.iface 92 v) xT 87 true).run Tryd.prog w = .ok (.tuple #[.nilIface, .bool false]) w := run_typeAssert_lacksB Tryd.underlying87 (by kernel_rfl) (by kernel_rfl) v xT w
theorem run_TypeOf (v : Value) (w : World) : (callFunc 41 #[.iface 92 v]).run Tryd.prog w = .ok (.value (.iface 81 (.agg #[.pointer (some ⟨Tryd.prog.globals.size, 92, none⟩)]))) w := by
  rw [@run_callFunc_extern Tryd.prog 41 _ Extern.ReflectliteType.typeOf Tryd.func41 (by kernel_rfl) (by kernel_rfl) (by kernel_rfl) (by kernel_rfl), isTypeOf]; rfl
theorem run_Comparable (w : World) : (callMethod (.iface 81 (.agg #[.pointer (some ⟨Tryd.prog.globals.size, 92, none⟩)])) "Comparable" #[]).run Tryd.prog w = .ok (.value (.bool true)) w := by
  have h32 := @run_callFunc_extern Tryd.prog 68 _ (Extern.ReflectliteType.method fun t => do Extern.Rtype.noPackHeld "Comparable" t; pure (.bool (← typeInfo t).comparable)) Tryd.func68 (by kernel_rfl) (by kernel_rfl) (by kernel_rfl) (by kernel_rfl)
  simp only [callMethod, Sem.run_bind, run_program, Result.andThen_ok, isMethodComparable]
  show (callFunc 68 (#[.agg #[.pointer (some ⟨Tryd.prog.globals.size, 92, none⟩)]] ++ #[])).run Tryd.prog w = _
  rw [Array.append_empty, h32]
  rw [isComparable]; rfl

variable {W : World} {E : Nat → Addr}

/-- errors.is(x, y, true), both of them package-level errors. -/
theorem errors_is (hE : Errs W E) (c d : Nat) (hc : c < 9) (hd : d < 9) : Ct Tryd.prog W 42 #[errv E c, errv E d, .bool true] [] (fun v H' => v = .bool (decide (c = d)) ∧ H' = []) := by
  refine ct_of_cw (vs := [_, _, _]) Tryd.func42 rfl rfl fun w1 => ?_
  refine cw_seq (cw_region (ol_ev (ev_assign rfl) rfl (ol_nil (cw_block (cw_loop1 (cw_block ?_))))))
  refine cw_seq (cw_seq (cw_region ?_))
  refine ol_ev (ev_move rfl) rfl (ol_ev (ev_move rfl) rfl (ol_on rfl rfl rfl (ol_ev (ev_move rfl) rfl (ol_on rfl rfl rfl (ol_ev (ev_move rfl) rfl (ol_on rfl rfl rfl
    (ol_ev (ev_eqE hE rfl rfl (Nat.ble_eq_true_of_le hc) (Nat.ble_eq_true_of_le hd)) rfl (ol_ev (ev_pick_t rfl rfl) rfl (ol_nil ?_)))))))))
  refine cw_ifd rfl (fun h => ?_) (fun h => ?_)
  · refine cw_seq ?_; refine cw_region ?_; refine ol_ev (ev_assign rfl) rfl ?_; refine ol_nil ?_; refine cw_ret ?_
    exact ⟨_, res1 rfl rfl, by simp [h], rfl⟩
  · refine cw_skip ?_; refine cw_seq ?_; refine cw_seq ?_; refine cw_region ?_; refine ol_ev (ev_move rfl) rfl ?_
    refine ol_ev (ev_typeAssert rfl (noIsE _ _)) rfl ?_
    refine ol_ev (ev_move rfl) rfl ?_; refine ol_ev (ev_extract rfl rfl) rfl ?_; refine ol_ev (ev_extract rfl rfl) rfl ?_; refine ol_ev (ev_assign rfl) rfl ?_; refine ol_ev (ev_assign rfl) rfl ?_; refine ol_nil ?_; refine cw_seq ?_; refine cw_region ?_; refine ol_ev (ev_move rfl) rfl ?_; refine ol_ev (ev_move rfl) rfl ?_; (iterate 3 (refine ol_off rfl rfl rfl rfl rfl ?_)); refine ol_ev (ev_pick_f rfl rfl) rfl ?_; refine ol_nil ?_; refine cw_if_f rfl ?_; refine cw_skip ?_; refine cw_seq ?_; refine cw_region ?_; refine ol_ev (ev_move rfl) rfl ?_; refine ol_nil ?_; refine cw_block ?_; refine cw_seq ?_; refine cw_region ?_
    refine ol_ev (ev_typeAssert rfl (noUnwrapE _ _)) rfl ?_
    refine ol_ev (ev_extract rfl rfl) rfl ?_; refine ol_ev (ev_extract rfl rfl) rfl ?_; refine ol_nil ?_; refine cw_if_f rfl ?_; refine cw_seq ?_; refine cw_region ?_
    refine ol_ev (ev_typeAssert rfl (noUnwrapsE _ _)) rfl ?_
    refine ol_ev (ev_extract rfl rfl) rfl ?_; refine ol_ev (ev_extract rfl rfl) rfl ?_; refine ol_nil ?_; refine cw_if_f rfl ?_; refine cw_seq ?_; refine cw_region ?_; refine ol_ev (ev_assign rfl) rfl ?_; refine ol_nil ?_; refine cw_seq ?_; refine cw_region ?_; refine ol_ev (ev_assign rfl) rfl ?_; refine ol_nil ?_; refine cw_ret ?_
    exact ⟨_, res1 rfl rfl, by simp [h], rfl⟩

theorem errors_Is (hE : Errs W E) (c d : Nat) (hc : c < 9) (hd : d < 9) : Ct Tryd.prog W 33 #[errv E c, errv E d] [] (fun v H' => v = .bool (decide (c = d)) ∧ H' = []) := by
  refine ct_of_cw (vs := [_, _]) Tryd.func33 rfl rfl fun w1 => ?_
  refine cw_seq ?_; refine cw_region ?_; refine ol_ev (ev_assign rfl) rfl ?_; refine ol_nil ?_; refine cw_seq ?_; refine cw_seq ?_; refine cw_region ?_; refine ol_ev (ev_move rfl) rfl ?_; refine ol_ev (ev_eqnil_i rfl) rfl ?_; refine ol_ev (ev_move rfl) rfl ?_; refine ol_on rfl rfl rfl ?_; refine ol_ev (ev_move rfl) rfl ?_; refine ol_on rfl rfl rfl ?_; refine ol_ev (ev_eqnil_i rfl) rfl ?_; refine ol_ev (ev_pick_f rfl rfl) rfl ?_; refine ol_nil ?_; refine cw_if_f rfl ?_; refine cw_skip ?_; refine cw_seq ?_; refine cw_region ?_; refine ol_ev (ev_move rfl) rfl ?_
  refine ol_ev (ev_extern1 rfl (run_TypeOf _)) rfl ?_
  refine ol_ev (ev_invoke0 rfl run_Comparable) rfl ?_
  refine ol_ev (ev_assign rfl) rfl ?_; refine ol_nil ?_; refine cw_seq ?_; refine cw_region ?_; (iterate 3 (refine ol_ev (ev_move rfl) rfl ?_))
  refine ol_call3 (R := []) (cap := []) rfl rfl rfl rfl rfl (errors_is hE c d hc hd) (List.Perm.refl _) ?_
  rintro v G' ⟨rfl, rfl⟩
  refine ol_ev (ev_assign rfl) rfl ?_; refine ol_nil ?_; refine cw_ret ?_
  exact ⟨_, res1 rfl rfl, rfl, rfl⟩

/-- The number that impl.code gives an error. -/
def codeOf : Option Nat → Int
  | none => 0
  | some 2 => 1
  | some 3 => 2
  | some 4 => 3
  | some 7 => 4
  | some 8 => 5
  | some _ => 6


theorem code_ct (hE : Errs W E) (c : Option Nat) (hc : ∀ k, c = some k → k < 9) : Ct Tryd.prog W 28 #[errO E c] [] (fun v H' => v = .int .i64 (codeOf c) ∧ H' = []) := by
  refine ct_of_cw (vs := [_]) Tryd.func28 rfl rfl fun w1 => ?_
  cases c with
  | none =>
    refine cw_seq ?_; refine cw_region ?_; refine ol_ev (ev_assign rfl) rfl ?_; refine ol_nil ?_; refine cw_seq ?_; refine cw_seq ?_; refine cw_region ?_; refine ol_ev (ev_move rfl) rfl ?_; refine ol_ev (ev_eqnil_n rfl) rfl ?_; refine ol_nil ?_; refine cw_if_t rfl ?_; refine cw_seq ?_; refine cw_region ?_; refine ol_ev (ev_assign rfl) rfl ?_; refine ol_nil ?_; refine cw_ret ?_
    exact ⟨_, res1 rfl rfl, rfl, rfl⟩
  | some k =>
    have hk : k < 9 := hc k rfl
    refine cw_seq ?_; refine cw_region ?_; refine ol_ev (ev_assign rfl) rfl ?_; refine ol_nil ?_; refine cw_seq ?_; refine cw_seq ?_; refine cw_region ?_; refine ol_ev (ev_move rfl) rfl ?_; refine ol_ev (ev_eqnil_i rfl) rfl ?_; refine ol_nil ?_; refine cw_if_f rfl ?_; refine cw_skip ?_; refine cw_seq ?_; refine cw_block ?_; refine cw_seq ?_; refine cw_region ?_; refine ol_ev (ev_move rfl) rfl ?_
    refine ol_ev (ev_loadW rfl hE.c2) rfl ?_
    refine ol_call2 (R := []) (cap := []) rfl rfl rfl rfl (errors_Is hE k 2 hk (by omega)) (List.Perm.refl _) ?_
    rintro v G' ⟨rfl, rfl⟩
    refine ol_ev (ev_assign rfl) rfl (ol_nil (cw_ifd rfl (fun h => ?_) (fun h => ?_)))
    · subst h
      refine cw_seq ?_; refine cw_region ?_; refine ol_ev (ev_assign rfl) rfl ?_; refine ol_nil ?_; refine cw_ret ?_
      exact ⟨_, res1 rfl rfl, rfl, rfl⟩
    refine cw_seq ?_; refine cw_region ?_; refine ol_ev (ev_move rfl) rfl ?_
    refine ol_ev (ev_loadW rfl hE.c3) rfl ?_
    refine ol_call2 (R := []) (cap := []) rfl rfl rfl rfl (errors_Is hE k 3 hk (by omega)) (List.Perm.refl _) ?_
    rintro v G' ⟨rfl, rfl⟩
    refine ol_ev (ev_assign rfl) rfl (ol_nil (cw_ifd rfl (fun h => ?_) (fun h => ?_)))
    · subst h
      refine cw_seq ?_; refine cw_region ?_; refine ol_ev (ev_assign rfl) rfl ?_; refine ol_nil ?_; refine cw_ret ?_
      exact ⟨_, res1 rfl rfl, rfl, rfl⟩
    refine cw_seq ?_; refine cw_region ?_; refine ol_ev (ev_move rfl) rfl ?_
    refine ol_ev (ev_loadW rfl hE.c4) rfl ?_
    refine ol_call2 (R := []) (cap := []) rfl rfl rfl rfl (errors_Is hE k 4 hk (by omega)) (List.Perm.refl _) ?_
    rintro v G' ⟨rfl, rfl⟩
    refine ol_ev (ev_assign rfl) rfl (ol_nil (cw_ifd rfl (fun h => ?_) (fun h => ?_)))
    · subst h
      refine cw_seq ?_; refine cw_region ?_; refine ol_ev (ev_assign rfl) rfl ?_; refine ol_nil ?_; refine cw_ret ?_
      exact ⟨_, res1 rfl rfl, rfl, rfl⟩
    refine cw_seq ?_; refine cw_region ?_; refine ol_ev (ev_move rfl) rfl ?_
    refine ol_ev (ev_loadW rfl hE.c7) rfl ?_
    refine ol_call2 (R := []) (cap := []) rfl rfl rfl rfl (errors_Is hE k 7 hk (by omega)) (List.Perm.refl _) ?_
    rintro v G' ⟨rfl, rfl⟩
    refine ol_ev (ev_assign rfl) rfl (ol_nil (cw_ifd rfl (fun h => ?_) (fun h => ?_)))
    · subst h
      refine cw_seq ?_; refine cw_region ?_; refine ol_ev (ev_assign rfl) rfl ?_; refine ol_nil ?_; refine cw_ret ?_
      exact ⟨_, res1 rfl rfl, rfl, rfl⟩
    refine cw_seq ?_; refine cw_region ?_; refine ol_ev (ev_move rfl) rfl ?_
    refine ol_ev (ev_loadW rfl hE.c8) rfl ?_
    refine ol_call2 (R := []) (cap := []) rfl rfl rfl rfl (errors_Is hE k 8 hk (by omega)) (List.Perm.refl _) ?_
    rintro v G' ⟨rfl, rfl⟩
    refine ol_ev (ev_assign rfl) rfl (ol_nil (cw_ifd rfl (fun h => ?_) (fun h => ?_)))
    · subst h
      refine cw_seq ?_; refine cw_region ?_; refine ol_ev (ev_assign rfl) rfl ?_; refine ol_nil ?_; refine cw_ret ?_
      exact ⟨_, res1 rfl rfl, rfl, rfl⟩
    refine cw_skip ?_; refine cw_seq ?_; refine cw_region ?_; refine ol_ev (ev_assign rfl) rfl ?_; refine ol_nil ?_; refine cw_ret ?_
    refine ⟨_, res1 rfl rfl, ?_, rfl⟩
    have : codeOf (some k) = 6 := by unfold codeOf; split <;> simp_all
    rw [this]
end Go.HE
