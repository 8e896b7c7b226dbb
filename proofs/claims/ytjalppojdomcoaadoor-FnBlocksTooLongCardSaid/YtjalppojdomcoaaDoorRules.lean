/- Rules of the calculus for operations that turn memory, for calls, for a function's entry and its results, for regions whose order is open. No condition: these are lemmas of our own. -/
import Derived.Test.YtjalppojdomcoaaDoorOps
namespace Go.HE
open Go.RowKit

section
variable {P : Program} {C : Cx} {ops : Array Oper} {rest : List Oper} {l : Env} {H K : Heap} {Q : Exit → Env → Heap → Prop}
variable {o : Op} {ty t : TypeId} {pos : String} {af : Array Edge} {v : Value} {d : Nat} {x y z : Operand}

theorem ol_on {j s : Nat} {b : Bool} {dd : Option Tmp} (hj : gslot ops j = some s) (ht : look l s = some (.bool b)) (hn : Nat.ble (s + 1) C.n = true)
    (k : OL P C ops (⟨dd, o, ty, pos, af, none⟩ :: rest) l H Q) : OL P C ops (⟨dd, o, ty, pos, af, some (j, b)⟩ :: rest) l H Q := by
  refine ⟨fun a w hs hw => ?_⟩
  have h := k.out a w hs hw
  unfold wpList at h ⊢
  have h1 : Region.wanted ⟨dd, o, ty, pos, af, some (j, b)⟩ (yielded ops a.tmps) = true := by
    simp [Region.wanted, yielded_of hs hj ht (Nat.le_of_ble_eq_true hn)]
  rw [h1, if_pos rfl]
  rw [show Region.wanted ⟨dd, o, ty, pos, af, none⟩ (yielded ops a.tmps) = true from rfl, if_pos rfl] at h
  exact h

theorem ol_offn {j s : Nat} {b c : Bool} (hj : gslot ops j = some s) (ht : look l s = some (.bool c)) (hne : (c == b) = false) (hn : Nat.ble (s + 1) C.n = true)
    (k : OL P C ops rest l H Q) : OL P C ops (⟨none, o, ty, pos, af, some (j, b)⟩ :: rest) l H Q := by
  refine ⟨fun a w hs hw => ?_⟩
  unfold wpList
  have : Region.wanted ⟨none, o, ty, pos, af, some (j, b)⟩ (yielded ops a.tmps) = false := by
    simp only [Region.wanted, yielded_of hs hj ht (Nat.le_of_ble_eq_true hn)]
    cases c <;> cases b <;> simp_all
  rw [this, if_neg (by simp)]
  exact k.out _ w hs hw

theorem yielded_undef {n : Nat} {l : Env} {a : Act} {j t : Nat} (h : Sat n l a) (hj : gslot ops j = some t) (ht : look l t = some undef) (hn : t < n) : yielded ops a.tmps j = none := by
  have h1 := h.has t _ ht
  have hs := h.size
  unfold yielded
  rw [show ((ops[j]?).bind (·.dst)) = some t from hj]
  have h2 : a.tmps[t]? = some undef := by
    have : t < a.tmps.size := by omega
    simp only [Array.getD_eq_getD_getElem?] at h1
    rw [Array.getElem?_eq_getElem this] at h1 ⊢
    simpa using h1
  simp only [Option.bind_some, h2, undef]

theorem ol_offu {j s : Nat} {b : Bool} (hj : gslot ops j = some s) (ht : look l s = some undef) (hd : Nat.ble (d + 1) C.n = true) (hn : Nat.ble (s + 1) C.n = true)
    (k : OL P C ops rest ((d, undef) :: l) H Q) : OL P C ops (⟨some d, o, ty, pos, af, some (j, b)⟩ :: rest) l H Q := by
  refine ⟨fun a w hs hw => ?_⟩
  unfold wpList
  have : Region.wanted ⟨some d, o, ty, pos, af, some (j, b)⟩ (yielded ops a.tmps) = false := by
    simp [Region.wanted, yielded_undef hs hj ht (Nat.le_of_ble_eq_true hn)]
  rw [this, if_neg (by simp)]
  exact k.out _ w (hs.put (Nat.le_of_ble_eq_true hd) undef) hw
theorem sl_offu {j s : Nat} {b : Bool} {K : Env → Prop} (hj : gslot ops j = some s) (ht : look l s = some undef) (hd : Nat.ble (d + 1) C.n = true) (hn : Nat.ble (s + 1) C.n = true)
    (k : SL P C ops rest ((d, undef) :: l) H K) : SL P C ops (⟨some d, o, ty, pos, af, some (j, b)⟩ :: rest) l H K := by
  refine ⟨fun a w hs hw => ?_⟩
  unfold wpStill
  have : Region.wanted ⟨some d, o, ty, pos, af, some (j, b)⟩ (yielded ops a.tmps) = false := by
    simp [Region.wanted, yielded_undef hs hj ht (Nat.le_of_ble_eq_true hn)]
  rw [this, if_neg (by simp)]
  exact k.out _ w (hs.put (Nat.le_of_ble_eq_true hd) undef) hw

theorem OL.perm (hp : H.Perm K) (h : OL P C ops rest l K Q) : OL P C ops rest l H Q := ⟨fun a w hs hw => h.out a w hs (St.perm hw hp)⟩
theorem OL.weak {r : Env} (hs : SubE l r) (h : OL P C ops rest r H Q) : OL P C ops rest l H Q := ⟨fun a w hsat hw => h.out a w (hsat.weak hs) hw⟩

/-- An operation that yields nothing and leads to a state K. -/
theorem ol_skip (h : ∀ a w, Sat C.n l a → C.st H w → ∃ w', (execOp a.eval ⟨none, o, ty, pos, af, none⟩).run P w = .ok .skip w' ∧ C.st K w') (k : OL P C ops rest l K Q) :
    OL P C ops (⟨none, o, ty, pos, af, none⟩ :: rest) l H Q := by
  refine ⟨fun a w hs hw => ?_⟩
  unfold wpList
  rw [show Region.wanted ⟨none, o, ty, pos, af, none⟩ (yielded ops a.tmps) = true from rfl, if_pos rfl]
  left
  unfold Oper.wp
  obtain ⟨w', h1, h2⟩ := h a w hs hw
  rw [h1]
  exact k.out _ w' hs h2

/-- An operation that yields a value and turns memory. -/
theorem ol_val {R : Value → Heap → Prop} (hd : Nat.ble (d + 1) C.n = true)
    (h : ∀ a w, Sat C.n l a → C.st H w → ∃ v K w', (execOp a.eval ⟨some d, o, ty, pos, af, none⟩).run P w = .ok (.value v) w' ∧ C.st K w' ∧ R v K) (k : ∀ v K, R v K → OL P C ops rest ((d, v) :: l) K Q) :
    OL P C ops (⟨some d, o, ty, pos, af, none⟩ :: rest) l H Q := by
  refine ⟨fun a w hs hw => ?_⟩
  unfold wpList
  rw [show Region.wanted ⟨some d, o, ty, pos, af, none⟩ (yielded ops a.tmps) = true from rfl, if_pos rfl]
  left
  unfold Oper.wp
  obtain ⟨v, K, w', h1, h2, h3⟩ := h a w hs hw
  rw [h1]
  exact (k v K h3).out _ w' (hs.put (Nat.le_of_ble_eq_true hd) v) h2

theorem run_storeAt_one {b off bb : Nat} {zv : Value} [hT : TInfo P t zv 1 bb] (h1 : v.oneCell' = true) {w : World} {c : Value} (hc : w.cell? ⟨b, off, none⟩ = some c) (hfz : w.frozen? ⟨b, off, none⟩ = false) :
    (Instr.storeAt t (.pointer (some ⟨b, off, none⟩)) v).run P w = .ok () (w.setCell ⟨b, off, none⟩ v) := by
  have hcells : v.cells = #[v] := by cases v <;> first | rfl | simp [Value.oneCell'] at h1
  have e0 : (Addr.mk b off none).add 0 = ⟨b, off, none⟩ := rfl
  simp [Instr.storeAt, Instr.sureAddr, storeVar, hcells, run_sizeOf_eq hT, storeCells, e0, run_store P w _ v _ h1, hc, hfz]

theorem ol_store {b off bb : Nat} {ho : HO} {zv : Value} [hT : TInfo P t zv 1 bb] (hx : ev l x = some (.pointer (some ⟨b, off, none⟩))) (hy : ev l y = some v) (h1 : v.oneCell' = true)
    (hu : Upd H b ho ⟨ho.cells.set off v, ho.elem, ho.fz⟩ K) (hlt : Nat.ble (off + 1) ho.cells.length = true) (hfz : (decide (ho.fz.1 ≤ off) && decide (off < ho.fz.2)) = false)
    (k : OL P C ops rest l K Q) : OL P C ops (⟨none, .store t x y, ty, pos, af, none⟩ :: rest) l H Q := by
  refine ol_skip (K := K) (fun a w hs hw => ⟨w.setCell ⟨b, off, none⟩ v, ?_, St.setCell hw hu⟩) k
  have hm := hu.mem
  have hlt' : off < ho.cells.length := Nat.le_of_ble_eq_true hlt
  have hc : w.cell? ⟨b, off, none⟩ = some ho.cells[off] := by rw [hw.own.cell hm, List.getElem?_eq_getElem hlt']
  have hz : w.frozen? ⟨b, off, none⟩ = false := by rw [hw.own.frozen hm]; exact hfz
  simp [execOp, hs.eval hx, hs.eval hy, run_storeAt_one (P := P) (t := t) (zv := zv) (bb := bb) h1 hc hz]

theorem ol_box (hx : ev l x = some v) (hd : Nat.ble (d + 1) C.n = true) (k : ∀ b, OL P C ops rest ((d, .pointer (some ⟨b, 0, none⟩)) :: l) ((b, ⟨v.cells.toList, t, (0, 0)⟩) :: H) Q) :
    OL P C ops (⟨some d, .box t x, ty, pos, af, none⟩ :: rest) l H Q := by
  refine ol_val (R := fun u K => ∃ b, u = .pointer (some ⟨b, 0, none⟩) ∧ K = (b, ⟨v.cells.toList, t, (0, 0)⟩) :: H) hd (fun a w hs hw => ?_) ?_
  · refine ⟨_, _, w.alloc (.cells v.cells t (0, 0)), ?_, St.alloc hw ⟨v.cells.toList, t, (0, 0)⟩, _, rfl, rfl⟩
    simp [execOp, hs.eval hx, Instr.box, newVar, newRow]
  · rintro u K ⟨b, rfl, rfl⟩
    exact k b

theorem ol_alloc {zv : Value} {c bb : Nat} [hT : TInfo P t zv c bb] (hd : Nat.ble (d + 1) C.n = true) (k : ∀ b, OL P C ops rest ((d, .pointer (some ⟨b, 0, none⟩)) :: l) ((b, ⟨zv.cells.toList, t, (0, 0)⟩) :: H) Q) :
    OL P C ops (⟨some d, .alloc t, ty, pos, af, none⟩ :: rest) l H Q := by
  refine ol_val (R := fun u K => ∃ b, u = .pointer (some ⟨b, 0, none⟩) ∧ K = (b, ⟨zv.cells.toList, t, (0, 0)⟩) :: H) hd (fun a w hs hw => ?_) ?_
  · refine ⟨_, _, w.alloc (.cells zv.cells t (0, 0)), ?_, St.alloc hw ⟨zv.cells.toList, t, (0, 0)⟩, _, rfl, rfl⟩
    simp [execOp, Instr.alloc, run_zeroValue_eq hT, newVar, newRow]
  · rintro u K ⟨b, rfl, rfl⟩
    exact k b

/-! Calls. -/
theorem run_callFunc {f : FuncId} (h : hasBody P f = true) (args : Array Value) (w : World) : (callFunc f args).run P w = .ok (.enter f args) w := by
  unfold hasBody at h
  unfold callFunc
  simp only [Sem.run_bind, run_program, Result.andThen_ok]
  cases hf : P.funcs[f]? with
  | none => simp [hf] at h
  | some fn =>
    simp only [hf, Bool.and_eq_true] at h
    have h1 : (fn.name == "runtime.NumGoroutine") = false := by
      have := h.2
      simpa [bne] using this
    have h2 : fn.body.isNone = false := by
      have := h.1
      cases hb : fn.body <;> simp_all
    simp [h1, h2]

/-- A call by its contract: the arguments' values, the function's own blocks G, the others R. -/
theorem ol_enter {f : FuncId} {args : Array Value} {G R : Heap} {S : Value → Heap → Prop} (hd : Nat.ble (d + 1) C.n = true)
    (h : ∀ a w, Sat C.n l a → C.st H w → (execOp a.eval ⟨some d, o, ty, pos, af, none⟩).run P w = .ok (.enter f args) w) (hc : Ct P C.W f args G S) (hp : H.Perm (G ++ R))
    (k : ∀ v G', S v G' → OL P C ops rest ((d, v) :: l) (G' ++ R) Q) : OL P C ops (⟨some d, o, ty, pos, af, none⟩ :: rest) l H Q := by
  refine ⟨fun a w hs hw => ?_⟩
  unfold wpList
  rw [show Region.wanted ⟨some d, o, ty, pos, af, none⟩ (yielded ops a.tmps) = true from rfl, if_pos rfl]
  left
  unfold Oper.wp
  rw [h a w hs hw]
  have hw2 : St C.W C.w1 C.D (G ++ R) w := St.perm hw hp
  have hG : St C.W C.w1 C.D G w := hw2.less (List.sublist_append_left G R)
  refine (hc.out w hw2.low hG.own hG.above).mono ?_
  rintro e w' ⟨u, G', rfl, hS, hst⟩
  exact (k u G' hS).out _ w' (hs.put (Nat.le_of_ble_eq_true hd) u) (hw2.call hst)

theorem ol_call0 {f : FuncId} {at' : Array TypeId} {cap : List Value} {fx : Operand} {G R : Heap} {S : Value → Heap → Prop} [hT : TFn P f] (hf : ev l fx = some (.func (.func f) #[] cap.toArray))
    (hd : Nat.ble (d + 1) C.n = true) (hc : Ct P C.W f cap.toArray G S) (hp : H.Perm (G ++ R)) (k : ∀ v G', S v G' → OL P C ops rest ((d, v) :: l) (G' ++ R) Q) :
    OL P C ops (⟨some d, .call ⟨.value fx, #[], at'⟩, ty, pos, af, none⟩ :: rest) l H Q :=
  ol_enter hd (fun a w hs _ => by simp [execOp, resolve, hs.eval hf, Deferred.ofValue, invoke, run_callFunc hT.h]) hc hp k
theorem ol_call1 {f : FuncId} {at' : Array TypeId} {cap : List Value} {fx a1 : Operand} {v1 : Value} {G R : Heap} {S : Value → Heap → Prop} [hT : TFn P f] (hf : ev l fx = some (.func (.func f) #[] cap.toArray)) (h1 : ev l a1 = some v1)
    (hd : Nat.ble (d + 1) C.n = true) (hc : Ct P C.W f (v1 :: cap).toArray G S) (hp : H.Perm (G ++ R)) (k : ∀ v G', S v G' → OL P C ops rest ((d, v) :: l) (G' ++ R) Q) :
    OL P C ops (⟨some d, .call ⟨.value fx, #[a1], at'⟩, ty, pos, af, none⟩ :: rest) l H Q :=
  ol_enter hd (fun a w hs _ => by simp [execOp, resolve, hs.eval hf, hs.eval h1, Deferred.ofValue, invoke, run_callFunc hT.h]) hc hp k
theorem ol_call2 {f : FuncId} {at' : Array TypeId} {cap : List Value} {fx a1 a2 : Operand} {v1 v2 : Value} {G R : Heap} {S : Value → Heap → Prop} [hT : TFn P f] (hf : ev l fx = some (.func (.func f) #[] cap.toArray)) (h1 : ev l a1 = some v1)
    (h2 : ev l a2 = some v2) (hd : Nat.ble (d + 1) C.n = true) (hc : Ct P C.W f (v1 :: v2 :: cap).toArray G S) (hp : H.Perm (G ++ R)) (k : ∀ v G', S v G' → OL P C ops rest ((d, v) :: l) (G' ++ R) Q) :
    OL P C ops (⟨some d, .call ⟨.value fx, #[a1, a2], at'⟩, ty, pos, af, none⟩ :: rest) l H Q :=
  ol_enter hd (fun a w hs _ => by simp [execOp, resolve, hs.eval hf, hs.eval h1, hs.eval h2, Deferred.ofValue, invoke, run_callFunc hT.h]) hc hp k
theorem ol_call3 {f : FuncId} {at' : Array TypeId} {cap : List Value} {fx a1 a2 a3 : Operand} {v1 v2 v3 : Value} {G R : Heap} {S : Value → Heap → Prop} [hT : TFn P f] (hf : ev l fx = some (.func (.func f) #[] cap.toArray)) (h1 : ev l a1 = some v1)
    (h2 : ev l a2 = some v2) (h3 : ev l a3 = some v3) (hd : Nat.ble (d + 1) C.n = true) (hc : Ct P C.W f (v1 :: v2 :: v3 :: cap).toArray G S) (hp : H.Perm (G ++ R)) (k : ∀ v G', S v G' → OL P C ops rest ((d, v) :: l) (G' ++ R) Q) :
    OL P C ops (⟨some d, .call ⟨.value fx, #[a1, a2, a3], at'⟩, ty, pos, af, none⟩ :: rest) l H Q :=
  ol_enter hd (fun a w hs _ => by simp [execOp, resolve, hs.eval hf, hs.eval h1, hs.eval h2, hs.eval h3, Deferred.ofValue, invoke, run_callFunc hT.h]) hc hp k
theorem ol_call4 {f : FuncId} {at' : Array TypeId} {cap : List Value} {fx a1 a2 a3 a4 : Operand} {v1 v2 v3 v4 : Value} {G R : Heap} {S : Value → Heap → Prop} [hT : TFn P f] (hf : ev l fx = some (.func (.func f) #[] cap.toArray)) (h1 : ev l a1 = some v1)
    (h2 : ev l a2 = some v2) (h3 : ev l a3 = some v3) (h4 : ev l a4 = some v4) (hd : Nat.ble (d + 1) C.n = true) (hc : Ct P C.W f (v1 :: v2 :: v3 :: v4 :: cap).toArray G S) (hp : H.Perm (G ++ R)) (k : ∀ v G', S v G' → OL P C ops rest ((d, v) :: l) (G' ++ R) Q) :
    OL P C ops (⟨some d, .call ⟨.value fx, #[a1, a2, a3, a4], at'⟩, ty, pos, af, none⟩ :: rest) l H Q :=
  ol_enter hd (fun a w hs _ => by simp [execOp, resolve, hs.eval hf, hs.eval h1, hs.eval h2, hs.eval h3, hs.eval h4, Deferred.ofValue, invoke, run_callFunc hT.h]) hc hp k

theorem ev_mkfunc0 {f : FuncId} : Ev P C H l (.makeFunc (.func f) #[] #[]) ty (.func (.func f) #[] ([] : List Value).toArray) := by
  refine ⟨fun a w d pos af g hs hw => ?_⟩; simp [execOp, Instr.makeFunc]
theorem ev_mkfunc1 {f : FuncId} {v1 : Value} (h1 : ev l x = some v1) : Ev P C H l (.makeFunc (.func f) #[] #[x]) ty (.func (.func f) #[] [v1].toArray) := by
  refine ⟨fun a w d pos af g hs hw => ?_⟩; simp [execOp, Instr.makeFunc, hs.eval h1]
theorem ev_mkfunc2 {f : FuncId} {v1 v2 : Value} (h1 : ev l x = some v1) (h2 : ev l y = some v2) : Ev P C H l (.makeFunc (.func f) #[] #[x, y]) ty (.func (.func f) #[] [v1, v2].toArray) := by
  refine ⟨fun a w d pos af g hs hw => ?_⟩; simp [execOp, Instr.makeFunc, hs.eval h1, hs.eval h2]
theorem ev_mkfunc3 {f : FuncId} {v1 v2 v3 : Value} (h1 : ev l x = some v1) (h2 : ev l y = some v2) (h3 : ev l z = some v3) : Ev P C H l (.makeFunc (.func f) #[] #[x, y, z]) ty (.func (.func f) #[] [v1, v2, v3].toArray) := by
  refine ⟨fun a w d pos af g hs hw => ?_⟩; simp [execOp, Instr.makeFunc, hs.eval h1, hs.eval h2, hs.eval h3]
theorem ev_typeAssert {u w' : Value} {xT aT : TypeId} {b : Bool} (hx : ev l x = some u) (h : ∀ w, (Instr.typeAssert u xT aT b).run P w = .ok w' w) : Ev P C H l (.typeAssert x xT aT b) ty w' := by
  refine ⟨fun a w d pos af g hs hw => ?_⟩; simp [execOp, hs.eval hx, h]
theorem ev_extern1 {f : FuncId} {u w' : Value} {at' : Array TypeId} (hx : ev l x = some u) (h : ∀ w, (callFunc f #[u]).run P w = .ok (.value w') w) : Ev P C H l (.call ⟨.value (.func f), #[x], at'⟩) ty w' := by
  refine ⟨fun a w d pos af g hs hw => ?_⟩
  have e : a.eval (.func f) = .func (.func f) #[] #[] := rfl
  simp [execOp, resolve, e, hs.eval hx, Deferred.ofValue, invoke, h]
theorem ev_extern2 {f : FuncId} {u u2 w' : Value} {at' : Array TypeId} (hx : ev l x = some u) (hy : ev l y = some u2) (h : ∀ w, C.st H w → (callFunc f #[u, u2]).run P w = .ok (.value w') w) : Ev P C H l (.call ⟨.value (.func f), #[x, y], at'⟩) ty w' := by
  refine ⟨fun a w d pos af g hs hw => ?_⟩
  have e : a.eval (.func f) = .func (.func f) #[] #[] := rfl
  simp [execOp, resolve, e, hs.eval hx, hs.eval hy, Deferred.ofValue, invoke, h w hw]
theorem ev_invoke0 {u w' : Value} {nm : String} {at' : Array TypeId} (hx : ev l x = some u) (h : ∀ w, (callMethod u nm #[]).run P w = .ok (.value w') w) : Ev P C H l (.call ⟨.invoke x nm, #[], at'⟩) ty w' := by
  refine ⟨fun a w d pos af g hs hw => ?_⟩
  have := h w
  simp [execOp, resolve, hs.eval hx, invoke]
  simpa using this
theorem ol_invoke1 {f : FuncId} {u rc v1 : Value} {nm : String} {at' : Array TypeId} {G R : Heap} {S : Value → Heap → Prop} (hx : ev l x = some u) (h1 : ev l y = some v1)
    (h : ∀ w, (callMethod u nm #[v1]).run P w = .ok (.enter f #[rc, v1]) w) (hd : Nat.ble (d + 1) C.n = true) (hc : Ct P C.W f [rc, v1].toArray G S) (hp : H.Perm (G ++ R)) (k : ∀ v G', S v G' → OL P C ops rest ((d, v) :: l) (G' ++ R) Q) :
    OL P C ops (⟨some d, .call ⟨.invoke x nm, #[y], at'⟩, ty, pos, af, none⟩ :: rest) l H Q :=
  ol_enter hd (fun a w hs _ => by
    have := h w
    simp [execOp, resolve, hs.eval hx, hs.eval h1, invoke]
    simpa using this) hc hp k

/-! A function's entry and its results. -/
def envOf : Nat → List Value → Env
  | _, [] => []
  | i, v :: vs => (i, v) :: envOf (i + 1) vs

theorem look_envOf : ∀ (vs : List Value) (i t : Nat) (v : Value), look (envOf i vs) t = some v → ∃ j, t = i + j ∧ vs[j]? = some v
  | [], i, t, v, h => by simp [envOf, look] at h
  | u :: vs, i, t, v, h => by
    simp only [envOf, look] at h
    cases hb : Nat.beq i t with
    | true =>
      rw [hb] at h
      simp only [Option.some.injEq] at h
      subst h
      exact ⟨0, (Nat.eq_of_beq_eq_true hb).symm, rfl⟩
    | false =>
      rw [hb] at h
      obtain ⟨j, h1, h2⟩ := look_envOf vs (i + 1) t v h
      exact ⟨j + 1, by omega, by simpa using h2⟩

/-- What a function's results are in a state. -/
def Res (P : Program) (C : Cx) (fn : Func) (l : Env) (H : Heap) (v : Value) : Prop := ∀ a w, Sat C.n l a → C.st H w → (results fn a.tmps).run P w = .ok v w

def retQ (P : Program) (C : Cx) (fn : Func) (R : Value → Heap → Prop) : Exit → Env → Heap → Prop
  | .normal, l, H => ∃ v, Res P C fn l H v ∧ R v H
  | .ret, l, H => ∃ v, Res P C fn l H v ∧ R v H
  | _, _, _ => False

theorem ct_of_cw {W : World} {f : FuncId} {fn : Func} {c : Code} {vs : List Value} {R : Value → Heap → Prop} (hf : P.funcs[f]? = some fn) (hb : fn.body = some c) (hn : Nat.ble vs.length fn.ntmps = true)
    (h : ∀ w1, CW P ⟨W, w1, H.map (·.1), fn.ntmps⟩ c (envOf 0 vs) H (retQ P ⟨W, w1, H.map (·.1), fn.ntmps⟩ fn R)) : Ct P W f vs.toArray H R := by
  refine ⟨fun w hlow hown habove => ?_⟩
  have hn' : vs.length ≤ fn.ntmps := Nat.le_of_ble_eq_true hn
  refine calls_of_wp hf hb ?_
  have hst : (Cx.mk W w (H.map (·.1)) fn.ntmps).st H w := ⟨hlow, hown, habove, Nat.le_refl _, fun _ _ _ => rfl, fun b o hm => .inl (List.mem_map.2 ⟨(b, o), hm, rfl⟩)⟩
  have hsat : Sat fn.ntmps (envOf 0 vs) { tmps := vs.toArray ++ Array.replicate (fn.ntmps - vs.toArray.size) undef, defers := [] } := by
    refine ⟨rfl, by simp; omega, fun t v hv => ?_⟩
    obtain ⟨j, h1, h2⟩ := look_envOf vs 0 t v hv
    obtain rfl : t = j := by omega
    have hlt : t < vs.length := (List.getElem?_eq_some_iff.1 h2).1
    simp only [Array.getD_eq_getD_getElem?]
    rw [Array.getElem?_append_left (by simpa using hlt)]
    simp [h2]
  refine wp_mono ((h w).out _ w hsat hst) fun e a w' hq => ?_
  obtain ⟨l', H', h1, h2, h3⟩ := hq
  cases e with
  | normal => obtain ⟨v, hr, hR⟩ := h3; exact ⟨h1.defers, v, hr a w' h1 h2, v, H', rfl, hR, h2⟩
  | ret => obtain ⟨v, hr, hR⟩ := h3; exact ⟨h1.defers, v, hr a w' h1 h2, v, H', rfl, hR, h2⟩
  | _ => exact h3.elim

theorem res0 {fn : Func} (hr : fn.results = #[]) : Res P C fn l H (.tuple #[]) := by
  intro a w hs hw; simp [results, hr]
theorem res1 {fn : Func} {t1 : Nat} {v1 : Value} (hr : fn.results = #[.tmp t1]) (h1 : look l t1 = some v1) : Res P C fn l H v1 := by
  intro a w hs hw
  have e1 := hs.has _ _ h1
  simp only [Array.getD_eq_getD_getElem?] at e1
  simp [results, hr, e1]
theorem res2 {fn : Func} {t1 t2 : Nat} {v1 v2 : Value} (hr : fn.results = #[.tmp t1, .tmp t2]) (h1 : look l t1 = some v1) (h2 : look l t2 = some v2) : Res P C fn l H (.tuple #[v1, v2]) := by
  intro a w hs hw
  have e1 := hs.has _ _ h1
  have e2 := hs.has _ _ h2
  simp only [Array.getD_eq_getD_getElem?] at e1 e2
  simp [results, hr, e1, e2]
theorem res3 {fn : Func} {t1 t2 t3 : Nat} {v1 v2 v3 : Value} (hr : fn.results = #[.tmp t1, .tmp t2, .tmp t3]) (h1 : look l t1 = some v1) (h2 : look l t2 = some v2) (h3 : look l t3 = some v3) : Res P C fn l H (.tuple #[v1, v2, v3]) := by
  intro a w hs hw
  have e1 := hs.has _ _ h1
  have e2 := hs.has _ _ h2
  have e3 := hs.has _ _ h3
  simp only [Array.getD_eq_getD_getElem?] at e1 e2 e3
  simp [results, hr, e1, e2, e3]
theorem res4 {fn : Func} {t1 t2 t3 t4 : Nat} {v1 v2 v3 v4 : Value} (hr : fn.results = #[.tmp t1, .tmp t2, .tmp t3, .tmp t4]) (h1 : look l t1 = some v1) (h2 : look l t2 = some v2) (h3 : look l t3 = some v3) (h4 : look l t4 = some v4) : Res P C fn l H (.tuple #[v1, v2, v3, v4]) := by
  intro a w hs hw
  have e1 := hs.has _ _ h1
  have e2 := hs.has _ _ h2
  have e3 := hs.has _ _ h3
  have e4 := hs.has _ _ h4
  simp only [Array.getD_eq_getD_getElem?] at e1 e2 e3 e4
  simp [results, hr, e1, e2, e3, e4]

theorem cw_if_t {c1 c2 : Code} (hc : ev l x = some (.bool true)) (h : CW P C c1 l H Q) : CW P C (.cond x c1 c2) l H Q := cw_cond hc (fun _ => h) (fun e => by cases e)
theorem cw_if_f {c1 c2 : Code} (hc : ev l x = some (.bool false)) (h : CW P C c2 l H Q) : CW P C (.cond x c1 c2) l H Q := cw_cond hc (fun e => by cases e) (fun _ => h)
theorem cw_ifd {c1 c2 : Code} {p : Prop} [Decidable p] (hc : ev l x = some (.bool (decide p))) (h1 : p → CW P C c1 l H Q) (h2 : ¬ p → CW P C c2 l H Q) : CW P C (.cond x c1 c2) l H Q :=
  cw_cond hc (fun e => h1 (of_decide_eq_true e)) (fun e => h2 (of_decide_eq_false e))
/-- A test's outcome is decided where it is put into a slot. -/
theorem ol_split {p : Prop} [Decidable p] (h1 : p → OL P C ops rest ((d, .bool true) :: l) H Q) (h2 : ¬ p → OL P C ops rest ((d, .bool false) :: l) H Q) : OL P C ops rest ((d, .bool (decide p)) :: l) H Q := by
  by_cases h : p
  · rw [decide_eq_true h]; exact h1 h
  · rw [decide_eq_false h]; exact h2 h
theorem sl_split {p : Prop} [Decidable p] {K : Env → Prop} (h1 : p → SL P C ops rest ((d, .bool true) :: l) H K) (h2 : ¬ p → SL P C ops rest ((d, .bool false) :: l) H K) : SL P C ops rest ((d, .bool (decide p)) :: l) H K := by
  by_cases h : p
  · rw [decide_eq_true h]; exact h1 h
  · rw [decide_eq_false h]; exact h2 h
theorem sl_on {j s : Nat} {b : Bool} {dd : Option Tmp} {K : Env → Prop} (hj : gslot ops j = some s) (ht : look l s = some (.bool b)) (hn : Nat.ble (s + 1) C.n = true)
    (k : SL P C ops (⟨dd, o, ty, pos, af, none⟩ :: rest) l H K) : SL P C ops (⟨dd, o, ty, pos, af, some (j, b)⟩ :: rest) l H K := by
  refine ⟨fun a w hs hw => ?_⟩
  have h := k.out a w hs hw
  unfold wpStill at h ⊢
  have h1 : Region.wanted ⟨dd, o, ty, pos, af, some (j, b)⟩ (yielded ops a.tmps) = true := by
    simp [Region.wanted, yielded_of hs hj ht (Nat.le_of_ble_eq_true hn)]
  rw [h1, if_pos rfl]
  rw [show Region.wanted ⟨dd, o, ty, pos, af, none⟩ (yielded ops a.tmps) = true from rfl, if_pos rfl] at h
  exact h

theorem cw_loop1 {c : Code} (h : CW P C c l H (thenQ (fun _ _ => False) Q)) : CW P C (.loop c) l H Q :=
  cw_loop (σ := Unit) (fun _ => l) (fun _ => H) (fun _ => True) (fun _ => 0) () trivial (fun _ h => h) rfl fun _ _ => h.mono fun e l' H' hq => by
    cases e with
    | normal => exact hq.elim
    | _ => exact hq

/-! Cuts, and regions whose order is open. -/
theorem cw_cut {c1 c2 : Code} (N : Env → Heap → Prop) (h : CW P C c1 l H (thenQ N Q)) (k : ∀ l' H', N l' H' → CW P C c2 l' H' Q) : CW P C (.seq c1 c2) l H Q := by
  refine cw_seq (h.mono fun e l' H' hq => ?_)
  cases e with
  | normal => exact k l' H' hq
  | _ => exact hq

theorem wpStill_mono {ops : Array Oper} {w : World} {K K' : Act → Prop} (hk : ∀ a, K a → K' a) : ∀ (r : List Oper) (a : Act), wpStill P ops w K r a → wpStill P ops w K' r a
  | [], a, h => hk a h
  | o :: r, a, h => by
    unfold wpStill at h ⊢
    split <;> rename_i hw <;> simp only [hw, if_true] at h
    · exact Oper.still_mono (fun a h => wpStill_mono hk r a h) h
    · exact wpStill_mono hk r _ h

/-- A region whose order is open: its first k operations leave the world alone; the others stand in a forced order. -/
theorem cw_tail {id : Nat} {os : List Oper} (k : Nat) (hm : P.follows .mixedOrders = true) (hB : Region.lexTailB .any os.toArray k = true)
    (h : SL P C os.toArray (os.take k) l H (fun l' => OL P C os.toArray (os.drop k) l' H Q)) : CW P C (.region id os.toArray true) l H Q := by
  refine ⟨fun a w hs hw => ?_⟩
  have hw' : C.st H { w with drawn := w.drawn + 1 } := St.drew hw
  refine wp_region_still_tail k hm hB ?_
  exact wpStill_mono (fun a' ⟨l', h1, h2⟩ => h2.out a' _ h1 hw') _ a (h.out a _ hs hw')

/-! A region whose order is open, with one operation in its middle that turns memory. -/
def lexHeadF (md : Region.Mode) (ops : Array Oper) (F : Array Bool → Bool) : Nat → Nat → Array Bool → Bool
  | 0, _, listed => F listed
  | f + 1, k, listed => (Region.ready md ops listed).contains k && Region.free md ops listed k && lexHeadF md ops F f (k + 1) (listed.setIfInBounds k true)

def midF (md : Region.Mode) (ops : Array Oper) (n : Nat) (listed : Array Bool) : Bool :=
  decide (Region.ready md ops listed = [n]) && Region.lexFrom md ops (ops.size - n - 1) (n + 1) (listed.setIfInBounds n true)

/-- Each operation behind the n-th waits for one from the n-th on. -/
def behindB (md : Region.Mode) (ops : Array Oper) (n : Nat) : Bool :=
  (List.range ops.size).all fun t => decide (t ≤ n) || (List.range ops.size).any fun j => decide (n ≤ j) && Region.waitsFor md ops t j

theorem behind_waits {ops : Array Oper} {md : Region.Mode} {n : Nat} (hs : Region.sinkB md ops n = true) (hb : behindB md ops n = true) {listed : Array Bool} (inv : HeadInv md ops n listed) :
    ∀ (d i : Nat), n - i = d → i < n → listed.getD i true = false → ∀ t, n ≤ t → t ∉ Region.ready md ops listed := by
  intro d
  induction d using Nat.strongRecOn with
  | _ d ih =>
    intro i hd hi hun t ht hr
    obtain ⟨_, ot, hot, hall⟩ := mem_ready.1 hr
    have htl : t < ops.size := (Array.getElem?_eq_some_iff.1 hot).1
    -- what t waits for is listed
    have waits : ∀ j, Region.waitsFor md ops t j = true → listed.getD j false = true := fun j hj => by
      obtain ⟨o', ho', e, he, hbd, hon⟩ := Region.waitsFor_spec hj
      obtain rfl : o' = ot := Option.some.inj (ho'.symm.trans hot)
      rw [← hon]; exact hall e he hbd
    rcases Nat.lt_or_ge n t with hlt | hge
    · have h1 := List.all_eq_true.1 hb t (List.mem_range.2 htl)
      simp only [Bool.or_eq_true, decide_eq_true_eq] at h1
      rcases h1 with h1 | h1
      · omega
      · obtain ⟨j, hj, hj2⟩ := List.any_eq_true.1 h1
        simp only [Bool.and_eq_true, decide_eq_true_eq] at hj2
        have h2 := waits j hj2.2
        rw [getD_both (inv.tail j hj2.1 (List.mem_range.1 hj))] at h2
        cases h2
    · obtain rfl : t = n := by omega
      obtain ⟨j, hj, hj2⟩ := List.any_eq_true.1 (List.all_eq_true.1 hs i (List.mem_range.2 hi))
      simp only [Bool.and_eq_true, decide_eq_true_eq] at hj2
      have hjt := List.mem_range.1 hj
      rcases Nat.lt_or_ge j t with hjl | hjg
      · obtain ⟨oj, hoj, e, he, hbd, hon⟩ := Region.waitsFor_spec hj2.2
        have hno : listed.getD j false = false := by
          cases hl : listed.getD j false with
          | false => rfl
          | true => have h3 := inv.closed j oj hoj hl e he hbd; rw [hon, getD_both hun] at h3; cases h3
        exact ih (t - j) (by omega) j rfl hjl (getD_in (by rw [inv.size]; omega) hno) t (Nat.le_refl _) hr
      · obtain rfl : j = t := by omega
        have h2 := waits i hj2.2
        rw [getD_both hun] at h2
        cases h2

/-- An operation of the head that may come first comes first. -/
theorem head_first {ops : Array Oper} {md : Region.Mode} {w : World} {n i : Nat} {oi : Oper} {v : Value} {L : Array Bool → Act → Prop} (hi : ops[i]? = some oi) (hsel : Region.noSelect ops = true)
    (hs : Region.sinkB md ops n = true) (hb : behindB md ops n = true) (hin : i < n) (hdone : ∀ listed a, L listed a → ∀ j ∈ Region.ready md ops listed, n ≤ j) :
    ∀ (f : Nat) (listed : Array Bool) (a : Act), HeadInv md ops n listed →
      (∀ j oj, ops[j]? = some oj → j ≠ i → listed.getD j true = false → (∀ e ∈ oj.after, Region.binds md e = true → e.on ≠ i) → oi.apart ops oj = true) →
      i ∈ Region.ready md ops listed → YieldsAt P ops w oi v a →
      wpAnyL P md ops w n L f (listed.setIfInBounds i true) (a.put oi.dst v) → wpAnyL P md ops w n L (f + 1) listed a := by
  intro f
  induction f with
  | zero =>
    intro listed a inv _ hr hy hL
    have hun := (mem_ready.1 hr).1
    refine ⟨fun h => (by rw [h] at hr; cases hr), fun j hj => ?_⟩
    have hjn : j < n := Nat.lt_of_not_le fun h => behind_waits hs hb inv _ i rfl hin hun j h hj
    refine ⟨hjn, ?_⟩
    by_cases hji : j = i
    · subst hji; exact hy.stOp hi hL
    · have := hdone _ _ hL j (ready_mono hj hji); omega
  | succ f ih =>
    intro listed a inv hfree hr hy hL
    have hun := (mem_ready.1 hr).1
    refine ⟨fun h => (by rw [h] at hr; cases hr), fun j hj => ?_⟩
    have hjn : j < n := Nat.lt_of_not_le fun h => behind_waits hs hb inv _ i rfl hin hun j h hj
    refine ⟨hjn, ?_⟩
    by_cases hji : j = i
    · subst hji; exact hy.stOp hi hL
    · have h1 := (hL.2 j (ready_mono hj hji)).2
      obtain ⟨hju, oj, hoj, hall⟩ := mem_ready.1 hj
      have hnot : ∀ e ∈ oj.after, Region.binds md e = true → e.on ≠ i := fun e he hbd heq => by
        have h2 := hall e he hbd
        rw [heq, getD_both hun] at h2
        cases h2
      have h2 := stOp_put hoj (hfree j oj hoj hji hju hnot) (fun cs b => Region.noSelect_spec hsel i oi cs b hi) (fun cs b => Region.noSelect_spec hsel j oj cs b hoj) hy h1
      refine stOp_mono (fun a' h3 => ih (listed.setIfInBounds j true) a' (inv.set hj hjn) (fun k ok hk hki hku hno => ?_) (ready_mono hr (Ne.symm hji)) h3.1 ?_) h2
      · refine hfree k ok hk hki ?_ hno
        by_cases hjk : j = k
        · subst hjk; exact hju
        · rw [getD_set_ne true hjk] at hku; exact hku
      · rw [Array.setIfInBounds_comm _ _ hji]; exact h3.2

def lexMidB (md : Region.Mode) (ops : Array Oper) (n : Nat) : Bool :=
  Region.noSelect ops && decide (n < ops.size) && Region.sinkB md ops n && behindB md ops n && lexHeadF md ops (midF md ops n) n 0 (Array.replicate ops.size false)

theorem wpAnyL_lexF {ops : Array Oper} {md : Region.Mode} {w : World} {n : Nat} {Lq : Act → Prop} {F : Array Bool → Bool} (hF : ∀ listed, F listed = true → ∀ j ∈ Region.ready md ops listed, n ≤ j) (hsel : Region.noSelect ops = true) (hs : Region.sinkB md ops n = true) (hc : behindB md ops n = true) :
    ∀ (l : List Oper) (k : Nat) (listed : Array Bool) (a : Act), (∀ j, j < l.length → l[j]? = ops[k + j]?) → k + l.length = n → HeadInv md ops n listed →
    lexHeadF md ops F l.length k listed = true → wpStill P ops w Lq l a →
    wpAnyL P md ops w n (fun listed' a' => F listed' = true ∧ Lq a') l.length listed a
  | [], k, listed, a, _, hk, _, hB, h => by
    have : k = n := by simpa using hk
    subst this
    exact ⟨by simpa [lexHeadF] using hB, h⟩
  | o :: l, k, listed, a, hl, hk, inv, hB, h => by
    have h0 : ops[k]? = some o := by simpa using (hl 0 (by simp)).symm
    simp only [List.length_cons, lexHeadF, Bool.and_eq_true] at hB
    obtain ⟨⟨hr, hf⟩, hB'⟩ := hB
    have hkn : k < n := by simp only [List.length_cons] at hk; omega
    have hr' : k ∈ Region.ready md ops listed := by simpa using hr
    have hst : stOp P ops w k (wpStill P ops w Lq l) a := by unfold stOp; simp only [h0]; exact h
    obtain ⟨v, hy, hK⟩ := yieldsAt_of_stOp h0 hst
    exact head_first h0 hsel hs hc hkn (fun listed' a' hL => hF listed' hL.1) l.length listed a inv (Region.free_spec h0 hf) hr' hy
      (wpAnyL_lexF hF hsel hs hc l (k + 1) _ _ (fun j hj => by have := hl (j + 1) (by simp; omega); simpa [Nat.add_assoc, Nat.add_comm 1 j] using this) (by simp only [List.length_cons] at hk; omega) (inv.set hr' hkn) hB' hK)

theorem Oper.wp_mono2 {o : Oper} {a : Act} {w : World} {K K' : Act → World → Prop} {Q1 Q2 : Exit → Act → World → Prop} (hk : ∀ a w, K a w → K' a w) (hp : ∀ c a w, Q1 (.panic c) a w → Q2 (.panic c) a w) (ho : ∀ a w, Q1 .outgrown a w → Q2 .outgrown a w)
    (h : o.wp P a w K Q1) : o.wp P a w K' Q2 := by
  unfold Oper.wp at *
  generalize (execOp a.eval o).run P w = r at *
  have hl : LetsOut Q1 → LetsOut Q2 := fun ⟨a, w, h⟩ => ⟨a, w, ho a w h⟩
  cases r with
  | ok n w' =>
    cases n <;> simp only [Oper.upon] at h ⊢ <;>
      first
        | exact hk _ _ h
        | exact Calls.mono h (fun e w'' he => by cases e <;> first | exact hk _ _ he | exact hp _ _ _ he | exact hl he)
        | exact Rows.mono h (fun _ _ he => hk _ _ he)
  | halt x w' => cases x <;> simp only [Oper.upon] at h ⊢ <;> first | exact hp _ _ _ h | exact h

theorem cw_mid {id : Nat} {os : List Oper} {om : Oper} (k : Nat) (hm : P.follows .mixedOrders = true) (hB : lexMidB .any os.toArray k = true) (ho : os[k]? = some om)
    (h : SL P C os.toArray (os.take k) l H (fun l' => OL P C os.toArray [om] l' H (thenQ (fun l2 H2 => SL P C os.toArray (os.drop (k + 1)) l2 H2 (fun l3 => Q .normal l3 H2)) Q))) :
    CW P C (.region id os.toArray true) l H Q := by
  refine ⟨fun a w hs hw => ?_⟩
  have hw' : C.st H { w with drawn := w.drawn + 1 } := St.drew hw
  simp only [lexMidB, Bool.and_eq_true, decide_eq_true_eq] at hB
  obtain ⟨⟨⟨⟨hsel, hn⟩, hsk⟩, hc⟩, hlex⟩ := hB
  have hn' : k < os.length := by simpa using hn
  have htl : (os.take k).length = k := by simp; omega
  have inv0 : HeadInv .any os.toArray k (Array.replicate os.toArray.size false) :=
    ⟨by simp, fun j oj _ hl => (by rw [getD_replicate_false] at hl; cases hl), fun t _ ht => getD_in (by simpa using ht) (getD_replicate_false _ _)⟩
  have hF : ∀ listed, midF .any os.toArray k listed = true → ∀ j ∈ Region.ready .any os.toArray listed, k ≤ j := fun listed hl j hj => by
    simp only [midF, Bool.and_eq_true, decide_eq_true_eq] at hl
    rw [hl.1] at hj
    have : j = k := by simpa using hj
    omega
  have Hd := wpAnyL_lexF (P := P) (md := .any) (w := { w with drawn := w.drawn + 1 }) hF hsel hsk hc (os.take k) 0 _ a (fun j hj => by
    have hj' : j < k := by rw [htl] at hj; exact hj
    simp [hj']) (by simpa using htl) inv0 (by rw [htl]; exact hlex) (h.out a _ hs hw')
  refine wp_region_any hm ?_
  have key : ∀ listed a', midF .any os.toArray k listed = true ∧ (∃ l', Sat C.n l' a' ∧ OL P C os.toArray [om] l' H (thenQ (fun l2 H2 => SL P C os.toArray (os.drop (k + 1)) l2 H2 (fun l3 => Q .normal l3 H2)) Q)) →
      wpAny P .any os.toArray (lift C Q) ((os.toArray.size - k - 1) + 1) listed a' { w with drawn := w.drawn + 1 } := by
    rintro listed a' ⟨hl, l', hsat, hol⟩
    simp only [midF, Bool.and_eq_true, decide_eq_true_eq] at hl
    refine ⟨fun h1 => (by rw [hl.1] at h1; cases h1), fun i hi => ?_⟩
    rw [hl.1] at hi
    have hik : i = k := by simpa using hi
    subst hik
    have hw1 := hol.out a' _ hsat hw'
    have next : ∀ (a2 : Act) (w2 : World), (∃ l2 H2, Sat C.n l2 a2 ∧ C.st H2 w2 ∧ SL P C os.toArray (os.drop (i + 1)) l2 H2 (fun l3 => Q .normal l3 H2)) →
        wpAny P .any os.toArray (lift C Q) (os.toArray.size - i - 1) (listed.setIfInBounds i true) a2 w2 := by
      rintro a2 w2 ⟨l2, H2, s2, t2, sl⟩
      have hdl : (os.drop (i + 1)).length = os.toArray.size - i - 1 := by simp; omega
      have := wpAnyS_lex (P := P) (w := w2) (md := .any) hsel (os.drop (i + 1)) (i + 1) (listed.setIfInBounds i true) a2 (fun j => by simp [List.getElem?_drop]) (by rw [hdl]; exact hl.2) (sl.out a2 w2 s2 t2)
      rw [hdl] at this
      exact wpAny_of_still (fun a3 ⟨l3, s3, q3⟩ => ⟨l3, H2, s3, t2, q3⟩) _ _ _ this
    unfold wpOp
    rw [show os.toArray[i]? = some om by simpa using ho]
    simp only
    unfold wpList at hw1
    split <;> rename_i hwant
    · rw [if_pos hwant] at hw1
      rcases hw1 with hw1 | ⟨hask, a0, w0, l0, H0, x1, x2, x3⟩
      · refine .inl (Oper.wp_mono2 (fun a2 w2 hk2 => next a2 w2 ?_) (fun c a2 w2 hq => hq) (fun a2 w2 hq => hq) hw1)
        obtain ⟨l2, H2, y1, y2, y3⟩ := hk2
        exact ⟨l2, H2, y1, y2, y3⟩
      · exact .inr ⟨hask, a0, w0, l0, H0, x1, x2, x3⟩
    · rw [if_neg hwant] at hw1
      obtain ⟨l2, H2, y1, y2, y3⟩ := hw1
      exact next _ _ ⟨l2, H2, y1, y2, y3⟩
  have := wpAny_of_head (Q' := lift C Q) (g := (os.toArray.size - k - 1) + 1) key _ _ _ Hd
  rw [htl, show k + ((os.toArray.size - k - 1) + 1) = os.toArray.size by omega] at this
  exact this
end
end Go.HE
