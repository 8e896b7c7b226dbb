/- The operations of Go code over symbolic states: what each one yields, each proved from the model's own text. No condition: these are lemmas of our own. -/
import Derived.Test.YtjalppojdomcoaaDoorBase
namespace Go.HE
open Go.RowKit

/-! Facts on a program's tables, which instances give. -/

def one (P : Program) (t : TypeId) : Bool :=
  match P.underlying t with
  | some (.struct _) => false
  | some (.array _ _) => false
  | some _ => true
  | none => false

/-- A type whose values lie in one cell. -/
class TOne (P : Program) (t : TypeId) : Prop where
  h : one P t = true

def fo (P : Program) (t : TypeId) (i : Nat) : Option Nat :=
  match P.underlying t with
  | some (.struct fs) => match fs[i]? with
    | some f => match P.info? f.type with
      | some n => if n.size = 0 then none else some f.offset
      | none => none
    | none => none
  | _ => none

/-- A field's place in its struct. -/
class TFld (P : Program) (t : TypeId) (i : Nat) (off : outParam Nat) : Prop where
  h : fo P t i = some off

/-- A slice type, its elements' type. -/
class TSlice (P : Program) (t : TypeId) (e : outParam TypeId) : Prop where
  h : P.underlying t = some (.slice e)

/-- A type of so many cells and bytes, its zero value. -/
class TInfo (P : Program) (t : TypeId) (z : outParam Value) (cells bytes : outParam Nat) : Prop where
  h : ((P.info? t).map fun i => (i.zero, i.size, i.bytes)) = some (some z, cells, bytes)

class TStr (P : Program) (t : TypeId) : Prop where
  h : P.underlying t = some .string

class TInt (P : Program) (t : TypeId) (k : outParam IntKind) : Prop where
  h : P.underlying t = some (.int k)

def isIface (P : Program) (t : TypeId) : Bool := match P.underlying t with | some (.interface _) => true | _ => false
class TIfc (P : Program) (t : TypeId) : Prop where
  h : isIface P t = true

def isConc (P : Program) (t : TypeId) : Bool := match P.underlying t with | some (.interface _) => false | some _ => true | none => false
class TConc (P : Program) (t : TypeId) : Prop where
  h : isConc P t = true

def hasBody (P : Program) (f : FuncId) : Bool := match P.funcs[f]? with | some fn => fn.body.isSome && fn.name != "runtime.NumGoroutine" | none => false
/-- A function with a body. -/
class TFn (P : Program) (f : FuncId) : Prop where
  h : hasBody P f = true

/-! Places in a list of blocks. -/
section
variable {b : Nat} {o : HO} {H : Heap} {x0 x1 x2 x3 x4 x5 x6 : Nat × HO}
theorem m0 : (b, o) ∈ (b, o) :: H := List.mem_cons_self
theorem m1 : (b, o) ∈ x0 :: (b, o) :: H := List.mem_cons_of_mem _ m0
theorem m2 : (b, o) ∈ x0 :: x1 :: (b, o) :: H := List.mem_cons_of_mem _ m1
theorem m3 : (b, o) ∈ x0 :: x1 :: x2 :: (b, o) :: H := List.mem_cons_of_mem _ m2
theorem m4 : (b, o) ∈ x0 :: x1 :: x2 :: x3 :: (b, o) :: H := List.mem_cons_of_mem _ m3
theorem m5 : (b, o) ∈ x0 :: x1 :: x2 :: x3 :: x4 :: (b, o) :: H := List.mem_cons_of_mem _ m4
theorem m6 : (b, o) ∈ x0 :: x1 :: x2 :: x3 :: x4 :: x5 :: (b, o) :: H := List.mem_cons_of_mem _ m5
theorem m7 : (b, o) ∈ x0 :: x1 :: x2 :: x3 :: x4 :: x5 :: x6 :: (b, o) :: H := List.mem_cons_of_mem _ m6
variable {o' : HO}
theorem u0 : Upd ((b, o) :: H) b o o' ((b, o') :: H) := Upd.head
theorem u1 : Upd (x0 :: (b, o) :: H) b o o' (x0 :: (b, o') :: H) := Upd.tail u0
theorem u2 : Upd (x0 :: x1 :: (b, o) :: H) b o o' (x0 :: x1 :: (b, o') :: H) := Upd.tail u1
theorem u3 : Upd (x0 :: x1 :: x2 :: (b, o) :: H) b o o' (x0 :: x1 :: x2 :: (b, o') :: H) := Upd.tail u2
theorem u4 : Upd (x0 :: x1 :: x2 :: x3 :: (b, o) :: H) b o o' (x0 :: x1 :: x2 :: x3 :: (b, o') :: H) := Upd.tail u3
theorem u5 : Upd (x0 :: x1 :: x2 :: x3 :: x4 :: (b, o) :: H) b o o' (x0 :: x1 :: x2 :: x3 :: x4 :: (b, o') :: H) := Upd.tail u4
theorem u6 : Upd (x0 :: x1 :: x2 :: x3 :: x4 :: x5 :: (b, o) :: H) b o o' (x0 :: x1 :: x2 :: x3 :: x4 :: x5 :: (b, o') :: H) := Upd.tail u5
theorem u7 : Upd (x0 :: x1 :: x2 :: x3 :: x4 :: x5 :: x6 :: (b, o) :: H) b o o' (x0 :: x1 :: x2 :: x3 :: x4 :: x5 :: x6 :: (b, o') :: H) := Upd.tail u6
end

/-! Runs of the model's small parts. -/
theorem run_underlying_eq {P : Program} {t : TypeId} {d : TypeDesc} (h : P.underlying t = some d) (w : World) : (underlying t).run P w = .ok d w := by
  simp [underlying, h]

theorem run_isAgg_one {P : Program} {t : TypeId} (h : one P t = true) (w : World) : (isAgg t).run P w = .ok false w := by
  unfold one at h
  unfold isAgg
  cases hu : P.underlying t with
  | none => simp [hu] at h
  | some d =>
    rw [hu] at h
    simp only [Sem.run_bind, run_underlying_eq hu, Result.andThen_ok]
    cases d <;> first | rfl | simp at h

theorem run_typeInfo_eq {P : Program} {t : TypeId} {i : TypeInfo} (h : P.info? t = some i) (w : World) : (typeInfo t).run P w = .ok i w := by
  simp [typeInfo, h]

theorem TInfo.get {P : Program} {t : TypeId} {z : Value} {c b : Nat} (h : TInfo P t z c b) : ∃ i, P.info? t = some i ∧ i.zero = some z ∧ i.size = c ∧ i.bytes = b := by
  have := h.h
  cases hi : P.info? t with
  | none => simp [hi] at this
  | some i =>
    simp only [hi, Option.map_some, Option.some.injEq, Prod.mk.injEq] at this
    exact ⟨i, rfl, this.1, this.2.1, this.2.2⟩

theorem run_sizeOf_eq {P : Program} {t : TypeId} {z : Value} {c b : Nat} (h : TInfo P t z c b) (w : World) : (sizeOf t).run P w = .ok c w := by
  obtain ⟨i, hi, _, hs, _⟩ := h.get
  simp [sizeOf, run_typeInfo_eq hi, hs]

theorem run_zeroValue_eq {P : Program} {t : TypeId} {z : Value} {c b : Nat} (h : TInfo P t z c b) (w : World) : (zeroValue t).run P w = .ok z w := by
  obtain ⟨i, hi, hz, _, _⟩ := h.get
  simp [zeroValue, run_typeInfo_eq hi, hz]

theorem add_none (b off n : Nat) : (Addr.mk b off none).add n = ⟨b, off + n, none⟩ := by
  unfold Addr.add; split <;> simp_all

section
variable {P : Program} {C : Cx} {H : Heap} {l : Env} {ty t : TypeId} {x y z : Operand} {v u : Value}

theorem ev_move (hx : ev l x = some v) : Ev P C H l (.move x) ty v := by
  refine ⟨fun a w d pos af g hs hw => ?_⟩; simp [execOp, hs.eval hx]
theorem ev_assign (hx : ev l x = some v) : Ev P C H l (.assign x) ty v := by
  refine ⟨fun a w d pos af g hs hw => ?_⟩; simp [execOp, hs.eval hx]
theorem ev_pick_t (hx : ev l x = some (.bool true)) (hy : ev l y = some v) : Ev P C H l (.pick x y z) ty v := by
  refine ⟨fun a w d pos af g hs hw => ?_⟩; simp [execOp, hs.eval hx, hs.eval hy, asBool]
theorem ev_pick_f (hx : ev l x = some (.bool false)) (hz : ev l z = some v) : Ev P C H l (.pick x y z) ty v := by
  refine ⟨fun a w d pos af g hs hw => ?_⟩; simp [execOp, hs.eval hx, hs.eval hz, asBool]
theorem ev_nilP {p : Addr} (hx : ev l x = some (.pointer (some p))) : Ev P C H l (.nilCheck x) ty (.pointer (some p)) := by
  refine ⟨fun a w d pos af g hs hw => ?_⟩; simp [execOp, hs.eval hx]
theorem ev_nilI (hx : ev l x = some (.iface t v)) : Ev P C H l (.nilCheck x) ty (.iface t v) := by
  refine ⟨fun a w d pos af g hs hw => ?_⟩; simp [execOp, hs.eval hx]
theorem ev_nilF {f : FuncId} {p q : Array Value} (hx : ev l x = some (.func (.func f) p q)) : Ev P C H l (.nilCheck x) ty (.func (.func f) p q) := by
  refine ⟨fun a w d pos af g hs hw => ?_⟩; simp [execOp, hs.eval hx]

theorem run_fieldAt {off b o i : Nat} (h : fo P t i = some off) (w : World) : (Instr.fieldAt t (.pointer (some ⟨b, o, none⟩)) i).run P w = .ok (.pointer (some ⟨b, o + off, none⟩)) w := by
  unfold fo at h
  cases hu : P.underlying t with
  | none => simp [hu] at h
  | some d =>
    rw [hu] at h
    cases d with
    | struct fs =>
      simp only at h
      cases hf : fs[i]? with
      | none => simp [hf] at h
      | some f =>
        simp only [hf] at h
        cases hi : P.info? f.type with
        | none => simp [hi] at h
        | some n =>
          simp only [hi] at h
          split at h
          · cases h
          · rename_i hn
            cases h
            simp [Instr.fieldAt, Instr.sureAddr, run_underlying_eq hu, hf, fieldPlace, sizeOf, run_typeInfo_eq hi, hn, add_none]
    | _ => simp at h

theorem ev_fld {i off b o : Nat} [hT : TFld P t i off] (hx : ev l x = some (.pointer (some ⟨b, o, none⟩))) : Ev P C H l (.fieldAddr t x i) ty (.pointer (some ⟨b, o + off, none⟩)) := by
  refine ⟨fun a w d pos af g hs hw => ?_⟩; simp [execOp, hs.eval hx, run_fieldAt hT.h]

theorem run_loadAt_one (h1 : one P t = true) {p : Addr} {w : World} (hc : w.cell? p = some v) : (Instr.loadAt t (.pointer (some p))).run P w = .ok v w := by
  simp [Instr.loadAt, Instr.sureAddr, loadVar, run_isAgg_one h1, hc]

theorem ev_load {b off : Nat} {o : HO} [hT : TOne P t] (hx : ev l x = some (.pointer (some ⟨b, off, none⟩))) (hb : (b, o) ∈ H) (hc : o.cells[off]? = some v) : Ev P C H l (.load t x) ty v := by
  refine ⟨fun a w d pos af g hs hw => ?_⟩; simp [execOp, hs.eval hx, run_loadAt_one hT.h (St.cell hw hb hc)]
theorem ev_loadW {p : Addr} [hT : TOne P t] (hx : ev l x = some (.pointer (some p))) (hc : C.W.cell? p = some v) : Ev P C H l (.load t x) ty v := by
  refine ⟨fun a w d pos af g hs hw => ?_⟩; simp [execOp, hs.eval hx, run_loadAt_one hT.h (St.cellW hw hc)]

/-! Integers. -/
def inI (n : Int) : Prop := -9223372036854775808 ≤ n ∧ n ≤ 9223372036854775807
theorem wrap_i64 {n : Int} (h : inI n) : IntKind.i64.wrap n = n := by
  obtain ⟨h1, h2⟩ := h
  exact IntWalk.i64_in n (by omega)

variable {m n : Int} {k : IntKind}
theorem guard_int {op : BinOp} {w : World} {a b : Operand} : (eqGuard op t a b (.int k m) (.int k n)).run P w = .ok () w := by
  unfold eqGuard
  cases op <;> simp

theorem ev_bin {op : BinOp} {a1 b1 : Value} (hx : ev l x = some a1) (hy : ev l y = some b1) (h : ∀ w : World, C.st H w → (eqGuard op t x y a1 b1).run P w = .ok () w)
    (h2 : ∀ w : World, C.st H w → (binOp op t a1 b1).run P w = .ok v w) {yt : TypeId} : Ev P C H l (.binOp op t x y yt) ty v := by
  refine ⟨fun a w d pos af g hs hw => ?_⟩
  simp [execOp, hs.eval hx, hs.eval hy, h w hw, h2 w hw]

theorem ev_add {yt : TypeId} (hx : ev l x = some (.int .i64 m)) (hy : ev l y = some (.int .i64 n)) (h : inI (m + n)) : Ev P C H l (.binOp .add t x y yt) ty (.int .i64 (m + n)) :=
  ev_bin hx hy (fun _ _ => guard_int) (fun _ _ => by simp [binOp, Op.intArith, wrap_i64 h])
theorem ev_sub {yt : TypeId} (hx : ev l x = some (.int .i64 m)) (hy : ev l y = some (.int .i64 n)) (h : inI (m - n)) : Ev P C H l (.binOp .sub t x y yt) ty (.int .i64 (m - n)) :=
  ev_bin hx hy (fun _ _ => guard_int) (fun _ _ => by simp [binOp, Op.intArith, wrap_i64 h])
theorem ev_mul {yt : TypeId} (hx : ev l x = some (.int .i64 m)) (hy : ev l y = some (.int .i64 n)) (h : inI (m * n)) : Ev P C H l (.binOp .mul t x y yt) ty (.int .i64 (m * n)) :=
  ev_bin hx hy (fun _ _ => guard_int) (fun _ _ => by simp [binOp, Op.intArith, wrap_i64 h])
theorem ev_eq {yt : TypeId} (hx : ev l x = some (.int k m)) (hy : ev l y = some (.int k n)) : Ev P C H l (.binOp .eql t x y yt) ty (.bool (decide (m = n))) :=
  ev_bin hx hy (fun _ _ => guard_int) (fun _ _ => by simp [binOp, Op.intCmp, BEq.beq])
theorem ev_ne {yt : TypeId} (hx : ev l x = some (.int k m)) (hy : ev l y = some (.int k n)) : Ev P C H l (.binOp .neq t x y yt) ty (.bool (decide (m ≠ n))) :=
  ev_bin hx hy (fun _ _ => guard_int) (fun _ _ => by simp [binOp, Op.intCmp, bne, BEq.beq])
theorem ev_lt {yt : TypeId} (hx : ev l x = some (.int k m)) (hy : ev l y = some (.int k n)) : Ev P C H l (.binOp .lss t x y yt) ty (.bool (decide (m < n))) :=
  ev_bin hx hy (fun _ _ => guard_int) (fun _ _ => by simp [binOp, Op.intCmp])
theorem ev_le {yt : TypeId} (hx : ev l x = some (.int k m)) (hy : ev l y = some (.int k n)) : Ev P C H l (.binOp .leq t x y yt) ty (.bool (decide (m ≤ n))) :=
  ev_bin hx hy (fun _ _ => guard_int) (fun _ _ => by simp [binOp, Op.intCmp])
theorem ev_gt {yt : TypeId} (hx : ev l x = some (.int k m)) (hy : ev l y = some (.int k n)) : Ev P C H l (.binOp .gtr t x y yt) ty (.bool (decide (n < m))) :=
  ev_bin hx hy (fun _ _ => guard_int) (fun _ _ => by simp [binOp, Op.intCmp])
theorem ev_ge {yt : TypeId} (hx : ev l x = some (.int k m)) (hy : ev l y = some (.int k n)) : Ev P C H l (.binOp .geq t x y yt) ty (.bool (decide (n ≤ m))) :=
  ev_bin hx hy (fun _ _ => guard_int) (fun _ _ => by simp [binOp, Op.intCmp])
theorem ev_quo {yt : TypeId} (hx : ev l x = some (.int .i64 m)) (hy : ev l y = some (.int .i64 n)) (h0 : 0 ≤ m) (hn : 0 < n) (h : inI m) : Ev P C H l (.binOp .quo t x y yt) ty (.int .i64 (m / n)) :=
  ev_bin hx hy (fun _ _ => guard_int) (fun _ _ => by
    have e : m.tdiv n = m / n := Int.tdiv_eq_ediv_of_nonneg h0
    have hle : m / n ≤ m := Int.ediv_le_self _ h0
    have hge : 0 ≤ m / n := Int.ediv_nonneg h0 (by omega)
    have hin : inI (m / n) := ⟨by have := h.1; omega, by have := h.2; omega⟩
    have hn0 : ¬ n = 0 := by omega
    simp [binOp, Op.intDiv, hn0, e, wrap_i64 hin])
theorem ev_rem {yt : TypeId} (hx : ev l x = some (.int .i64 m)) (hy : ev l y = some (.int .i64 n)) (h0 : 0 ≤ m) (hn : 0 < n) : Ev P C H l (.binOp .rem t x y yt) ty (.int .i64 (m % n)) :=
  ev_bin hx hy (fun _ _ => guard_int) (fun _ _ => by
    have e : m.tmod n = m % n := Int.tmod_eq_emod_of_nonneg h0
    have hn0 : ¬ n = 0 := by omega
    simp [binOp, Op.intDiv, hn0, e])
theorem ev_not {b : Bool} (hx : ev l x = some (.bool b)) : Ev P C H l (.unOp .not t x) ty (.bool (!b)) := by
  refine ⟨fun a w d pos af g hs hw => ?_⟩; simp [execOp, hs.eval hx, Op.unary]

/-! An interface value, a slice, a function against nil. -/
theorem isIface_get (h : isIface P t = true) : ∃ ms, P.underlying t = some (.interface ms) := by
  unfold isIface at h
  split at h
  · exact ⟨_, by assumption⟩
  · cases h

theorem equalIn_in {d : Nat} (h : isIface P t = true) {u : TypeId} (w : World) : (Op.equalIn (d + 1) t (.iface u v) .nilIface).run P w = .ok false w := by
  obtain ⟨ms, hu⟩ := isIface_get h
  unfold Op.equalIn
  simp only [Sem.run_bind, run_underlying_eq hu, Result.andThen_ok]
  rfl
theorem equalIn_nn {d : Nat} (h : isIface P t = true) (w : World) : (Op.equalIn (d + 1) t .nilIface .nilIface).run P w = .ok true w := by
  obtain ⟨ms, hu⟩ := isIface_get h
  unfold Op.equalIn
  simp only [Sem.run_bind, run_underlying_eq hu, Result.andThen_ok]
  rfl
theorem run_eql_nilIface_l (h : isIface P t = true) {u : TypeId} (w : World) : (binOp .eql t (.iface u v) .nilIface).run P w = .ok (.bool false) w := by
  show (do pure (Value.bool (← Op.equalIn (9999 + 1) t (.iface u v) .nilIface)) : Sem Value).run P w = _
  rw [Sem.run_bind, equalIn_in h]; rfl
theorem run_eql_nilIface_n (h : isIface P t = true) (w : World) : (binOp .eql t .nilIface .nilIface).run P w = .ok (.bool true) w := by
  show (do pure (Value.bool (← Op.equalIn (9999 + 1) t .nilIface .nilIface)) : Sem Value).run P w = _
  rw [Sem.run_bind, equalIn_nn h]; rfl
theorem run_neq_nilIface_l (h : isIface P t = true) {u : TypeId} (w : World) : (binOp .neq t (.iface u v) .nilIface).run P w = .ok (.bool true) w := by
  show (do pure (Value.bool (!(← Op.equalIn (9999 + 1) t (.iface u v) .nilIface))) : Sem Value).run P w = _
  rw [Sem.run_bind, equalIn_in h]; rfl
theorem run_neq_nilIface_n (h : isIface P t = true) (w : World) : (binOp .neq t .nilIface .nilIface).run P w = .ok (.bool false) w := by
  show (do pure (Value.bool (!(← Op.equalIn (9999 + 1) t .nilIface .nilIface))) : Sem Value).run P w = _
  rw [Sem.run_bind, equalIn_nn h]; rfl
theorem equalIn_sn {d : Nat} {e : TypeId} (h : P.underlying t = some (.slice e)) {p : Option Addr} {n c : Nat} (w : World) : (Op.equalIn (d + 1) t (.slice p n c) (.slice none 0 0)).run P w = .ok p.isNone w := by
  unfold Op.equalIn
  simp only [Sem.run_bind, run_underlying_eq h, Result.andThen_ok]
  cases p <;> rfl

theorem ev_eqnil_i {yt u : TypeId} [hT : TIfc P t] (hx : ev l x = some (.iface u v)) : Ev P C H l (.binOp .eql t x (.const .nilIface) yt) ty (.bool false) :=
  ev_bin hx rfl (fun _ _ => by simp [eqGuard]) (fun _ _ => run_eql_nilIface_l hT.h _)
theorem ev_eqnil_n {yt : TypeId} [hT : TIfc P t] (hx : ev l x = some .nilIface) : Ev P C H l (.binOp .eql t x (.const .nilIface) yt) ty (.bool true) :=
  ev_bin hx rfl (fun _ _ => by simp [eqGuard]) (fun _ _ => run_eql_nilIface_n hT.h _)
theorem ev_nenil_i {yt u : TypeId} [hT : TIfc P t] (hx : ev l x = some (.iface u v)) : Ev P C H l (.binOp .neq t x (.const .nilIface) yt) ty (.bool true) :=
  ev_bin hx rfl (fun _ _ => by simp [eqGuard]) (fun _ _ => run_neq_nilIface_l hT.h _)
theorem ev_nenil_n {yt : TypeId} [hT : TIfc P t] (hx : ev l x = some .nilIface) : Ev P C H l (.binOp .neq t x (.const .nilIface) yt) ty (.bool false) :=
  ev_bin hx rfl (fun _ _ => by simp [eqGuard]) (fun _ _ => run_neq_nilIface_n hT.h _)

theorem ev_eqnil_s {yt e : TypeId} {p : Option Addr} {n c : Nat} [hT : TSlice P t e] (hx : ev l x = some (.slice p n c)) : Ev P C H l (.binOp .eql t x (.const (.slice none 0 0)) yt) ty (.bool p.isNone) :=
  ev_bin hx rfl (fun _ _ => by simp [eqGuard]) (fun w _ => by
    show (do pure (Value.bool (← Op.equalIn (9999 + 1) t (.slice p n c) (.slice none 0 0))) : Sem Value).run P w = _
    rw [Sem.run_bind, equalIn_sn hT.h]; rfl)
theorem ev_nenil_s {yt e : TypeId} {p : Option Addr} {n c : Nat} [hT : TSlice P t e] (hx : ev l x = some (.slice p n c)) : Ev P C H l (.binOp .neq t x (.const (.slice none 0 0)) yt) ty (.bool p.isSome) :=
  ev_bin hx rfl (fun _ _ => by simp [eqGuard]) (fun w _ => by
    show (do pure (Value.bool (!(← Op.equalIn (9999 + 1) t (.slice p n c) (.slice none 0 0)))) : Sem Value).run P w = _
    rw [Sem.run_bind, equalIn_sn hT.h]; cases p <;> rfl)

/-! Tuples, interfaces, functions, lengths. -/
theorem ev_extract {vs : Array Value} {i : Nat} (hx : ev l x = some (.tuple vs)) (hi : vs[i]? = some v) : Ev P C H l (.extract x i) ty v := by
  refine ⟨fun a w d pos af g hs hw => ?_⟩; simp [execOp, hs.eval hx, Instr.extract, hi]
theorem ev_mkiface [hT : TConc P t] (hx : ev l x = some v) : Ev P C H l (.makeInterface t x) ty (.iface t v) := by
  refine ⟨fun a w d pos af g hs hw => ?_⟩
  have h := hT.h
  unfold isConc at h
  cases hu : P.underlying t with
  | none => simp [hu] at h
  | some dd =>
    rw [hu] at h
    simp only [execOp, hs.eval hx, Instr.makeInterface, Sem.run_bind, run_underlying_eq hu, Result.andThen_ok]
    cases dd <;> first | rfl | simp at h
theorem ev_len_s {e : TypeId} {p : Option Addr} {n c : Nat} [hT : TSlice P t e] (hx : ev l x = some (.slice p n c)) :
    Ev P C H l (.call ⟨.builtin .len, #[x], #[t]⟩) ty (.int .i64 n) := by
  refine ⟨fun a w d pos af g hs hw => ?_⟩
  simp [execOp, resolve, invoke, builtin, Builtin.len_, hs.eval hx, run_underlying_eq hT.h, goInt]
theorem ev_cap_s {e : TypeId} {p : Option Addr} {n c : Nat} [hT : TSlice P t e] (hx : ev l x = some (.slice p n c)) :
    Ev P C H l (.call ⟨.builtin .cap, #[x], #[t]⟩) ty (.int .i64 c) := by
  refine ⟨fun a w d pos af g hs hw => ?_⟩
  simp [execOp, resolve, invoke, builtin, Builtin.cap_, hs.eval hx, run_underlying_eq hT.h, goInt]
theorem ev_min {t2 : TypeId} (hx : ev l x = some (.int k m)) (hy : ev l y = some (.int k n)) : Ev P C H l (.call ⟨.builtin .min, #[x, y], #[t, t2]⟩) ty (.int k (min m n)) := by
  refine ⟨fun a w d pos af g hs hw => ?_⟩
  simp [execOp, resolve, invoke, builtin, Builtin.min_, Builtin.min2, hs.eval hx, hs.eval hy]
  omega
theorem ev_max {t2 : TypeId} (hx : ev l x = some (.int k m)) (hy : ev l y = some (.int k n)) : Ev P C H l (.call ⟨.builtin .max, #[x, y], #[t, t2]⟩) ty (.int k (max m n)) := by
  refine ⟨fun a w d pos af g hs hw => ?_⟩
  simp [execOp, resolve, invoke, builtin, Builtin.max_, Builtin.max2, hs.eval hx, hs.eval hy]
  omega

/-! Slices of one-cell elements. -/
theorem run_bound {w : World} {m : Nat} {i : Int} (h0 : 0 ≤ i) (h1 : i ≤ m) (c : BoundsCode) : (Instr.sliceBound (.int .i64 i) m c).run P w = .ok i.toNat w := by
  simp [Instr.sliceBound, asIntOf, h0, h1]

theorem TInfo.ne {P : Program} {t : TypeId} {z : Value} {c b : Nat} (_ : TInfo P t z c b) : True := trivial

theorem ev_slice {e : TypeId} {zv : Value} {bb : Nat} {b off len cap : Nat} {lo hi : Int} [hT : TSlice P t e] [hI : TInfo P e zv 1 bb] (hx : ev l x = some (.slice (some ⟨b, off, none⟩) len cap))
    (hy : ev l y = some (.int .i64 lo)) (hz : ev l z = some (.int .i64 hi)) (h0 : 0 ≤ lo) (h1 : lo ≤ hi) (h2 : hi ≤ cap) :
    Ev P C H l (.slice t x (some y) (some z) none) ty (.slice (some ⟨b, if cap = lo.toNat then off else off + lo.toNat, none⟩) (hi.toNat - lo.toNat) (cap - lo.toNat)) := by
  refine ⟨fun a w d pos af g hs hw => ?_⟩
  have hh := run_bound (P := P) (w := w) (m := cap) (by omega : 0 ≤ hi) h2 .sliceAcap
  have hl := run_bound (P := P) (w := w) (m := hi.toNat) h0 (by omega) .sliceB
  simp [execOp, hs.eval hx, hs.eval hy, hs.eval hz, Instr.sliceAt, Instr.slice, Instr.sliceBounds, run_underlying_eq hT.h, hh, hl, run_sizeOf_eq hI, add_none]
  split <;> rfl
end
end Go.HE
