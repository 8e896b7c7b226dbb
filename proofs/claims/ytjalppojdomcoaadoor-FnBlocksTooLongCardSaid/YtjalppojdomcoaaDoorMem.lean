/- Strings, slices, copy, append and make over symbolic states. No condition: these are lemmas of our own. -/
import Derived.Test.YtjalppojdomcoaaDoorRules
set_option maxRecDepth 100000
set_option maxHeartbeats 4000000
namespace Go.HE
open Go.RowKit

/-- A string's value; a byte's; bytes in cells. -/
def str (s : List UInt8) : Value := .string ⟨s.toArray⟩
def bv (b : UInt8) : Value := .int .u8 (b.toNat : Int)
def bcells (s : List UInt8) : List Value := s.map bv

theorem str_of (s : ByteArray) : Value.string s = str s.data.toList := by
  unfold str; rw [Array.toArray_toList]

@[simp] theorem bcells_length (s : List UInt8) : (bcells s).length = s.length := by simp [bcells]
theorem bcells_append (s r : List UInt8) : bcells (s ++ r) = bcells s ++ bcells r := by simp [bcells]
theorem bcells_take (s : List UInt8) (n : Nat) : (bcells s).take n = bcells (s.take n) := by simp [bcells, List.map_take]
theorem bcells_drop (s : List UInt8) (n : Nat) : (bcells s).drop n = bcells (s.drop n) := by simp [bcells, List.map_drop]
theorem bcells_one (s : List UInt8) : ∀ u ∈ bcells s, u.oneCell' = true := by
  intro u hu
  obtain ⟨b, _, rfl⟩ := List.mem_map.1 hu
  rfl

theorem size_mk (s : List UInt8) : (ByteArray.mk s.toArray).size = s.length := by show s.toArray.size = s.length; simp
theorem beq_dec (a b : List UInt8) : (a == b) = decide (a = b) := by by_cases h : a = b <;> simp [h]

def sub (s : List UInt8) (lo hi : Nat) : List UInt8 := (s.drop lo).take (hi - lo)

theorem extract_str (s : List UInt8) (lo hi : Nat) : (ByteArray.mk s.toArray).extract lo hi = ⟨(sub s lo hi).toArray⟩ := by
  apply ByteArray.ext
  rw [ByteArray.data_extract]
  simp [sub]

section
variable {P : Program} {C : Cx} {ops : Array Oper} {rest : List Oper} {l : Env} {H K : Heap} {Q : Exit → Env → Heap → Prop}
variable {ty t e : TypeId} {pos : String} {af : Array Edge} {v u : Value} {d : Nat} {x y z : Operand} {s r : List UInt8} {i lo hi : Int}

theorem ev_len_str [hT : TStr P t] (hx : ev l x = some (str s)) : Ev P C H l (.call ⟨.builtin .len, #[x], #[t]⟩) ty (.int .i64 s.length) := by
  refine ⟨fun a w d pos af g hs hw => ?_⟩
  simp [execOp, resolve, invoke, builtin, Builtin.len_, hs.eval hx, run_underlying_eq hT.h, goInt, str, size_mk]

theorem ev_slice_str [hT : TStr P t] (hx : ev l x = some (str s)) (hy : ev l y = some (.int .i64 lo)) (hz : ev l z = some (.int .i64 hi)) (h0 : 0 ≤ lo) (h1 : lo ≤ hi) (h2 : hi ≤ s.length) :
    Ev P C H l (.slice t x (some y) (some z) none) ty (str (sub s lo.toNat hi.toNat)) := by
  refine ⟨fun a w d pos af g hs hw => ?_⟩
  have hh := run_bound (P := P) (w := w) (m := s.length) (by omega : 0 ≤ hi) h2 .sliceAlen
  have hl := run_bound (P := P) (w := w) (m := hi.toNat) h0 (by omega) .sliceB
  have hsz := size_mk s
  simp [execOp, hs.eval hx, hs.eval hy, hs.eval hz, Instr.sliceAt, Instr.slice, Instr.sliceBounds, run_underlying_eq hT.h, str, hsz, hh, hl, extract_str]
theorem ev_slice_str_to [hT : TStr P t] (hx : ev l x = some (str s)) (hz : ev l z = some (.int .i64 hi)) (h0 : 0 ≤ hi) (h2 : hi ≤ s.length) :
    Ev P C H l (.slice t x none (some z) none) ty (str (s.take hi.toNat)) := by
  refine ⟨fun a w d pos af g hs hw => ?_⟩
  have hh := run_bound (P := P) (w := w) (m := s.length) h0 h2 .sliceAlen
  have hsz := size_mk s
  simp [execOp, hs.eval hx, hs.eval hz, Instr.sliceAt, Instr.slice, Instr.sliceBounds, run_underlying_eq hT.h, str, hsz, hh, extract_str, sub]
theorem ev_slice_str_from [hT : TStr P t] (hx : ev l x = some (str s)) (hy : ev l y = some (.int .i64 lo)) (h0 : 0 ≤ lo) (h1 : lo ≤ s.length) :
    Ev P C H l (.slice t x (some y) none none) ty (str (s.drop lo.toNat)) := by
  refine ⟨fun a w d pos af g hs hw => ?_⟩
  have hl := run_bound (P := P) (w := w) (m := s.length) h0 h1 .sliceB
  have hsz := size_mk s
  have e1 : (s.drop lo.toNat).take (s.length - lo.toNat) = s.drop lo.toNat := List.take_of_length_le (by simp)
  simp [execOp, hs.eval hx, hs.eval hy, Instr.sliceAt, Instr.slice, Instr.sliceBounds, run_underlying_eq hT.h, str, hsz, hl, extract_str, sub, e1]

theorem getElem?_str (s : List UInt8) (k : Nat) : (ByteArray.mk s.toArray)[k]? = s[k]? := by
  by_cases h : k < s.length
  · have h' : k < (ByteArray.mk s.toArray).size := by rw [size_mk]; exact h
    rw [getElem?_pos (ByteArray.mk s.toArray) k h', List.getElem?_eq_getElem h]
    rfl
  · have h' : ¬ k < (ByteArray.mk s.toArray).size := by rw [size_mk]; exact h
    rw [getElem?_neg (ByteArray.mk s.toArray) k h', List.getElem?_eq_none (by omega)]

theorem ev_index_str {k : IntKind} {b : UInt8} [hT : TStr P t] (hx : ev l x = some (str s)) (hy : ev l y = some (.int k i)) (h0 : 0 ≤ i) (h1 : s[i.toNat]? = some b) :
    Ev P C H l (.index t x y) ty (bv b) := by
  refine ⟨fun a w d pos af g hs hw => ?_⟩
  simp [execOp, hs.eval hx, hs.eval hy, Instr.index, asIntOf, run_underlying_eq hT.h, str, h0, getElem?_str, h1, bv]

theorem ev_concat {yt : TypeId} (hx : ev l x = some (str s)) (hy : ev l y = some (str r)) (h : (s.length + r.length : Int) ≤ 9223372036854775807) : Ev P C H l (.binOp .add t x y yt) ty (str (s ++ r)) :=
  ev_bin hx hy (fun _ _ => by simp [eqGuard]) (fun w _ => by
    have h1 : ¬ (IntKind.i64.max < ((ByteArray.mk s.toArray).size + (ByteArray.mk r.toArray).size : Nat)) := by
      have e1 := size_mk s
      have e2 := size_mk r
      have e3 : IntKind.i64.max = 9223372036854775807 := by decide
      rw [e1, e2, e3]; omega
    have e4 : ByteArray.mk s.toArray ++ ByteArray.mk r.toArray = ⟨(s ++ r).toArray⟩ := by
      apply ByteArray.ext; simp
    have h2 : ¬ ((((ByteArray.mk s.toArray).size + (ByteArray.mk r.toArray).size : Nat) : Int) > IntKind.i64.max) := h1
    simp only [str, binOp, Op.stringOp]
    rw [if_neg h2, e4]
    rfl)
theorem ev_eq_str {yt : TypeId} (hx : ev l x = some (str s)) (hy : ev l y = some (str r)) : Ev P C H l (.binOp .eql t x y yt) ty (.bool (decide (s = r))) :=
  ev_bin hx hy (fun _ _ => by simp [eqGuard, str]) (fun w _ => by simp only [str, binOp_string_eql, ByteArray.toList_mk]; rw [beq_dec]; rfl)
theorem ev_ne_str {yt : TypeId} (hx : ev l x = some (str s)) (hy : ev l y = some (str r)) : Ev P C H l (.binOp .neq t x y yt) ty (.bool (decide (s ≠ r))) :=
  ev_bin hx hy (fun _ _ => by simp [eqGuard, str]) (fun w _ => by simp only [str, binOp_string_neq, ByteArray.toList_mk]; rw [beq_dec, decide_not]; rfl)

/-! Elements of slices. -/
theorem ev_idx {zv : Value} {c bb b off len cap : Nat} {k : IntKind} [hT : TSlice P t e] [hI : TInfo P e zv c bb] (hx : ev l x = some (.slice (some ⟨b, off, none⟩) len cap)) (hy : ev l y = some (.int k i)) (h0 : 0 ≤ i) (h1 : i < len) :
    Ev P C H l (.indexAddr t x y) ty (.pointer (some ⟨b, off + i.toNat * c, none⟩)) := by
  refine ⟨fun a w d pos af g hs hw => ?_⟩
  simp [execOp, hs.eval hx, hs.eval hy, Instr.indexAt, asIntOf, run_underlying_eq hT.h, h0, h1, run_sizeOf_eq hI, add_none]
theorem ev_idx1 {zv : Value} {bb b off len cap : Nat} {k : IntKind} [hT : TSlice P t e] [hI : TInfo P e zv 1 bb] (hx : ev l x = some (.slice (some ⟨b, off, none⟩) len cap)) (hy : ev l y = some (.int k i)) (h0 : 0 ≤ i) (h1 : i < len) :
    Ev P C H l (.indexAddr t x y) ty (.pointer (some ⟨b, off + i.toNat, none⟩)) := by
  have := ev_idx (P := P) (C := C) (H := H) (ty := ty) (t := t) (e := e) (zv := zv) (c := 1) (bb := bb) hx hy h0 h1
  simpa using this

/-- Slices of a slice, without one of the bounds. -/
theorem ev_slice_to {zv : Value} {bb : Nat} {p : Option Addr} {len cap : Nat} [hT : TSlice P t e] [hI : TInfo P e zv 1 bb] (hx : ev l x = some (.slice p len cap)) (hz : ev l z = some (.int .i64 hi)) (h0 : 0 ≤ hi) (h2 : hi ≤ cap) :
    Ev P C H l (.slice t x none (some z) none) ty (.slice p hi.toNat cap) := by
  refine ⟨fun a w d pos af g hs hw => ?_⟩
  have hh := run_bound (P := P) (w := w) (m := cap) h0 h2 .sliceAcap
  have e0 : ∀ q : Addr, q.add 0 = q := fun q => rfl
  simp [execOp, hs.eval hx, hs.eval hz, Instr.sliceAt, Instr.slice, Instr.sliceBounds, run_underlying_eq hT.h, hh, run_sizeOf_eq hI, e0]
theorem ev_slice_any {zv : Value} {bb : Nat} {p : Option Addr} {len cap : Nat} [hT : TSlice P t e] [hI : TInfo P e zv 1 bb] (hx : ev l x = some (.slice p len cap))
    (hy : ev l y = some (.int .i64 lo)) (hz : ev l z = some (.int .i64 hi)) (h0 : 0 ≤ lo) (h1 : lo ≤ hi) (h2 : hi ≤ cap) :
    Ev P C H l (.slice t x (some y) (some z) none) ty (.slice (if cap = lo.toNat then p else p.map (·.add lo.toNat)) (hi.toNat - lo.toNat) (cap - lo.toNat)) := by
  refine ⟨fun a w d pos af g hs hw => ?_⟩
  have hh := run_bound (P := P) (w := w) (m := cap) (by omega : 0 ≤ hi) h2 .sliceAcap
  have hl := run_bound (P := P) (w := w) (m := hi.toNat) h0 (by omega) .sliceB
  simp [execOp, hs.eval hx, hs.eval hy, hs.eval hz, Instr.sliceAt, Instr.slice, Instr.sliceBounds, run_underlying_eq hT.h, hh, hl, run_sizeOf_eq hI]
theorem ev_slice_from {zv : Value} {bb : Nat} {b off len cap : Nat} [hT : TSlice P t e] [hI : TInfo P e zv 1 bb] (hx : ev l x = some (.slice (some ⟨b, off, none⟩) len cap)) (hy : ev l y = some (.int .i64 lo)) (h0 : 0 ≤ lo) (h1 : lo ≤ len) :
    Ev P C H l (.slice t x (some y) none none) ty (.slice (some ⟨b, if cap = lo.toNat then off else off + lo.toNat, none⟩) (len - lo.toNat) (cap - lo.toNat)) := by
  refine ⟨fun a w d pos af g hs hw => ?_⟩
  have hl := run_bound (P := P) (w := w) (m := len) h0 (by omega) .sliceB
  simp [execOp, hs.eval hx, hs.eval hy, Instr.sliceAt, Instr.slice, Instr.sliceBounds, run_underlying_eq hT.h, hl, run_sizeOf_eq hI, add_none]
  split <;> rfl

/-! Bytes as a string. -/
theorem strOfNums_bytes (s : List UInt8) : strOfNums (s.map fun b => (b.toNat : Int)) = ⟨s.toArray⟩ := by
  apply ByteArray.ext
  simp [strOfNums, Function.comp_def]

theorem run_loadCells_own {w : World} {b off : Nat} {o : HO} {vs : List Value} (ho : w.heap[b]? = some o.obj) (hv : (o.cells.drop off).take vs.length = vs) : (loadCells ⟨b, off, none⟩ vs.length).run P w = .ok vs.toArray w := by
  refine run_loadCells_list w ⟨b, off, none⟩ vs fun j u hj => ?_
  rw [add_none]
  have hlt : j < vs.length := (List.getElem?_eq_some_iff.1 hj).1
  rw [← hv, List.getElem?_take_of_lt hlt, List.getElem?_drop] at hj
  simp [World.cell?, ho, HO.obj, hj]

theorem ev_str_bytes {b off cap dt : Nat} {o : HO} [hT : TSlice P t e] [hB : TInt P e .u8] [hS : TStr P dt] (hx : ev l x = some (.slice (some ⟨b, off, none⟩) s.length cap)) (hb : (b, o) ∈ H) (hc : (o.cells.drop off).take s.length = bcells s) :
    Ev P C H l (.convert t dt x) ty (str s) := by
  refine ⟨fun a w d pos af g hs hw => ?_⟩
  have hl := run_loadCells_own (P := P) (hw.own.has b o hb) (vs := bcells s) (by simpa using hc)
  have h2 := run_bytesToString (P := P) w ⟨b, off, none⟩ s.length cap (s.map fun b => (b.toNat : Int)) (by rw [bcells_length] at hl; rw [hl]; simp [bcells, bv, Function.comp_def])
  simp only [execOp, hs.eval hx, Sem.run_bind]
  rw [run_convert_bytes_string w t dt e _ _ _ hT.h hB.h hS.h, h2, foldl_push_bytes]
  simp [str, Function.comp_def]
theorem ev_str_nil {n cap dt : Nat} [hT : TSlice P t e] [hB : TInt P e .u8] [hS : TStr P dt] (hx : ev l x = some (.slice none n cap)) : Ev P C H l (.convert t dt x) ty (str []) := by
  refine ⟨fun a w d pos af g hs hw => ?_⟩
  simp only [execOp, hs.eval hx, Sem.run_bind]
  rw [run_convert_bytes_string w t dt e _ _ _ hT.h hB.h hS.h]
  simp [Conv.bytesToString, str]
  rfl

/-! Conversions between kinds of integers. -/
theorem ev_conv_int {dt : TypeId} {k k' : IntKind} {n m : Int} [hT : TInt P t k] [hD : TInt P dt k'] (hx : ev l x = some (.int k n)) (h : k'.wrap n = m) : Ev P C H l (.convert t dt x) ty (.int k' m) := by
  refine ⟨fun a w d pos af g hs hw => ?_⟩
  simp [execOp, hs.eval hx, convert, run_underlying_eq hT.h, run_underlying_eq hD.h, Conv.intToInt, h]

/-! Cells written in a row. -/
structure Chg (w w' : World) (b : Nat) (o : HO) : Prop where
  os : w'.os = w.os
  tape : w'.tape = w.tape
  output : w'.output = w.output
  size : w'.heap.size = w.heap.size
  at_ : w'.heap[b]? = some o.obj
  other : ∀ c, c ≠ b → w'.heap[c]? = w.heap[c]?

def splice (cs : List Value) (off : Nat) (vs : List Value) : List Value := cs.take off ++ vs ++ cs.drop (off + vs.length)

theorem splice_nil (cs : List Value) (off : Nat) : splice cs off [] = cs := by simp [splice]
theorem splice_cons (cs : List Value) (off : Nat) (v : Value) (vs : List Value) (h : off < cs.length) : splice (cs.set off v) (off + 1) vs = splice cs off (v :: vs) := by
  unfold splice
  rw [List.take_succ_eq_append_getElem (by simpa using h)]
  simp only [List.getElem_set_self, List.length_cons]
  rw [List.take_set_of_le (Nat.le_refl _), List.drop_set_of_lt (by omega), show off + 1 + vs.length = off + (vs.length + 1) by omega]
  simp
theorem splice_length {cs : List Value} {off : Nat} {vs : List Value} (h : off + vs.length ≤ cs.length) : (splice cs off vs).length = cs.length := by
  simp [splice]; omega

theorem run_storeCells {b off : Nat} : ∀ (vs : List Value) (i : Nat) (w : World) (o : HO), w.heap[b]? = some o.obj → off + i + vs.length ≤ o.cells.length → o.fz = (0, 0) → (∀ u ∈ vs, u.oneCell' = true) →
    ∃ w', (storeCells ⟨b, off, none⟩ vs i).run P w = .ok () w' ∧ Chg w w' b ⟨splice o.cells (off + i) vs, o.elem, o.fz⟩
  | [], i, w, o, ho, _, _, _ => ⟨w, by simp [storeCells], ⟨rfl, rfl, rfl, rfl, by rw [splice_nil]; exact ho, fun _ _ => rfl⟩⟩
  | v :: vs, i, w, o, ho, hl, hz, h1 => by
    simp only [List.length_cons] at hl
    have hlt : off + i < o.cells.length := by omega
    have hc : w.cell? ⟨b, off + i, none⟩ = some o.cells[off + i] := by simp [World.cell?, ho, HO.obj, hlt]
    have hf : w.frozen? ⟨b, off + i, none⟩ = false := by simp [World.frozen?, ho, HO.obj, hz]
    have ho' : (w.setCell ⟨b, off + i, none⟩ v).heap[b]? = some (HO.obj ⟨o.cells.set (off + i) v, o.elem, o.fz⟩) := heap_setCell_same v ho
    obtain ⟨w', hr, hch⟩ := run_storeCells (off := off) vs (i + 1) (w.setCell ⟨b, off + i, none⟩ v) ⟨o.cells.set (off + i) v, o.elem, o.fz⟩ ho' (by simp; omega) hz (fun u hu => h1 u (List.mem_cons_of_mem _ hu))
    refine ⟨w', ?_, ?_⟩
    · simp only [storeCells, Sem.run_bind, add_none, run_store P w _ v _ (h1 v List.mem_cons_self), hc, hf]
      simpa using hr
    · refine ⟨hch.os, hch.tape, hch.output, by rw [hch.size]; simp, ?_, fun c hne => by rw [hch.other c hne]; exact Below.heap_setCell _ _ _ _ hne⟩
      have := hch.at_
      simp only at this
      rw [show off + (i + 1) = off + i + 1 by omega, splice_cons _ _ _ _ hlt] at this
      exact this

theorem St.chg {W w1 : World} {D : List Nat} {w w' : World} {b : Nat} {o o' : HO} (h : St W w1 D H w) (hu : Upd H b o o' K) (hc : Chg w w' b o') : St W w1 D K w' :=
  h.upd hu hc.os hc.tape hc.output hc.size hc.at_ hc.other

theorem run_firstCells_str (k n : Nat) (s : List UInt8) (w : World) : (Builtin.firstCells k n (str s)).run P w = .ok (bcells (s.take n)).toArray w := by
  have e2 : ((ByteArray.mk s.toArray).extract 0 n).data.map (fun b => Value.int .u8 (b.toNat : Int)) = (bcells (s.take n)).toArray := by
    rw [extract_str]
    show ((sub s 0 n).toArray).map bv = _
    simp [sub, bcells]
  show (pure (((ByteArray.mk s.toArray).extract 0 n).data.map (fun b => Value.int .u8 (b.toNat : Int))) : Sem (Array Value)).run P w = _
  rw [e2]; rfl
theorem run_lenOf_str (s : List UInt8) (w : World) : (Builtin.lenOf (str s)).run P w = .ok s.length w := by
  show (pure (ByteArray.mk s.toArray).size : Sem Nat).run P w = _
  rw [size_mk]; rfl

/-- copy(b, s), s a string. -/
theorem ol_copy_str {zv : Value} {bb b off len cap n : Nat} {st : TypeId} {o : HO} [hT : TSlice P t e] [hI : TInfo P e zv 1 bb] (hx : ev l x = some (.slice (some ⟨b, off, none⟩) len cap)) (hy : ev l y = some (str s)) (hn : n = min s.length len) (hz : o.fz = (0, 0))
    (hle : off + n ≤ o.cells.length) (hu : Upd H b o ⟨splice o.cells off (bcells (s.take n)), o.elem, o.fz⟩ K) (hd : Nat.ble (d + 1) C.n = true) (k : OL P C ops rest ((d, .int .i64 (n : Int)) :: l) K Q) :
    OL P C ops (⟨some d, .call ⟨.builtin .copy, #[x, y], #[t, st]⟩, ty, pos, af, none⟩ :: rest) l H Q := by
  refine ol_val (R := fun u K' => u = .int .i64 (n : Int) ∧ K' = K) hd (fun a w hs hw => ?_) (by rintro u K' ⟨rfl, rfl⟩; exact k)
  have hlen : (bcells (s.take n)).length = n := by simp; omega
  obtain ⟨w', hr, hch⟩ := run_storeCells (P := P) (off := off) (bcells (s.take n)) 0 w o (hw.own.has b o hu.mem) (by rw [hlen]; omega) hz (bcells_one _)
  refine ⟨_, _, w', ?_, St.chg hw hu hch, rfl, rfl⟩
  have e1 : Nat.min s.length len = n := hn.symm
  have hf := run_firstCells_str (P := P) 1 n s w
  have hlo := run_lenOf_str (P := P) s w
  simp [execOp, resolve, invoke, builtin, Builtin.copy_, hs.eval hx, hs.eval hy, run_underlying_eq hT.h, hlo, run_sizeOf_eq hI, e1, hf, hr, goInt]

/-- copy(b, c), c a slice whose cells are known. -/
theorem ol_copy_cells {zv : Value} {bb b off len cap b2 off2 len2 cap2 n : Nat} {st : TypeId} {o o2 : HO} {vs : List Value} [hT : TSlice P t e] [hI : TInfo P e zv 1 bb] (hx : ev l x = some (.slice (some ⟨b, off, none⟩) len cap)) (hy : ev l y = some (.slice (some ⟨b2, off2, none⟩) len2 cap2))
    (hn : n = min len2 len) (hz : o.fz = (0, 0)) (h2 : (b2, o2) ∈ H) (hvl : vs.length = n) (hv : (o2.cells.drop off2).take vs.length = vs) (h1 : ∀ u ∈ vs, u.oneCell' = true)
    (hle : off + n ≤ o.cells.length) (hu : Upd H b o ⟨splice o.cells off vs, o.elem, o.fz⟩ K) (hd : Nat.ble (d + 1) C.n = true) (k : OL P C ops rest ((d, .int .i64 (n : Int)) :: l) K Q) :
    OL P C ops (⟨some d, .call ⟨.builtin .copy, #[x, y], #[t, st]⟩, ty, pos, af, none⟩ :: rest) l H Q := by
  refine ol_val (R := fun u K' => u = .int .i64 (n : Int) ∧ K' = K) hd (fun a w hs hw => ?_) (by rintro u K' ⟨rfl, rfl⟩; exact k)
  obtain ⟨w', hr, hch⟩ := run_storeCells (P := P) (off := off) vs 0 w o (hw.own.has b o hu.mem) (by rw [hvl]; omega) hz h1
  refine ⟨_, _, w', ?_, St.chg hw hu hch, rfl, rfl⟩
  have e1 : Nat.min len2 len = n := hn.symm
  have hl := run_loadCells_own (P := P) (hw.own.has b2 o2 h2) hv
  rw [hvl] at hl
  simp [execOp, resolve, invoke, builtin, Builtin.copy_, hs.eval hx, hs.eval hy, run_underlying_eq hT.h, Builtin.lenOf, Builtin.firstCells, run_sizeOf_eq hI, e1, hl, hr, goInt]

/-- copy(b, c) of nothing. -/
theorem ol_copy_none {zv : Value} {bb len cap cap2 : Nat} {p q : Option Addr} {st : TypeId} [hT : TSlice P t e] [hI : TInfo P e zv 1 bb] (hx : ev l x = some (.slice p len cap)) (hy : ev l y = some (.slice q 0 cap2))
    (hd : Nat.ble (d + 1) C.n = true) (k : OL P C ops rest ((d, .int .i64 0) :: l) H Q) : OL P C ops (⟨some d, .call ⟨.builtin .copy, #[x, y], #[t, st]⟩, ty, pos, af, none⟩ :: rest) l H Q := by
  refine ol_ev ⟨fun a w d pos af g hs hw => ?_⟩ hd k
  have e1 : Nat.min 0 len = 0 := Nat.zero_min _
  cases q <;> cases p <;> simp [execOp, resolve, invoke, builtin, Builtin.copy_, hs.eval hx, hs.eval hy, run_underlying_eq hT.h, Builtin.lenOf, Builtin.firstCells, run_sizeOf_eq hI, e1, loadCells, loadCellsFrom, storeCells, goInt]

/-! New rows. -/
theorem madeCells_one (z : Value) (n : Nat) : madeCells #[z] n = (List.replicate n z).toArray := by
  apply Array.ext
  · simp [madeCells]
  · intro i h1 h2
    simp [madeCells, Nat.mod_one]

theorem ol_make {zv : Value} {bb : Nat} {n c : Int} [hT : TSlice P t e] [hI : TInfo P e zv 1 bb] (hx : ev l x = some (.int .i64 n)) (hy : ev l y = some (.int .i64 c)) (h0 : 0 ≤ n) (h1 : n ≤ c) (h2 : (bb : Int) * c ≤ 281474976710656) (h3 : c ≤ 9223372036854775807) (hz : zv.cells = #[zv])
    (hd : Nat.ble (d + 1) C.n = true) (k : ∀ b, OL P C ops rest ((d, .slice (some ⟨b, 0, none⟩) n.toNat c.toNat) :: l) ((b, ⟨List.replicate c.toNat zv, e, (0, 0)⟩) :: H) Q) :
    OL P C ops (⟨some d, .makeSlice t x y, ty, pos, af, none⟩ :: rest) l H Q := by
  refine ol_val (R := fun u K => ∃ b, u = .slice (some ⟨b, 0, none⟩) n.toNat c.toNat ∧ K = (b, ⟨List.replicate c.toNat zv, e, (0, 0)⟩) :: H) hd (fun a w hs hw => ?_) (by rintro u K ⟨b, rfl, rfl⟩; exact k b)
  obtain ⟨i, hi, hz1, hz2, hz3⟩ := hI.get
  refine ⟨_, _, _, ?_, St.alloc hw ⟨List.replicate c.toNat zv, e, (0, 0)⟩, _, rfl, rfl⟩
  have := run_make (P := P) w t e i zv hT.h hi hz1 .i64 .i64 n c h0 h1 (by rw [hz3]; exact h2) h3
  rw [hz, hz2, Nat.mul_one, madeCells_one] at this
  simp [execOp, hs.eval hx, hs.eval hy, this, HO.obj]

theorem ol_slice0 {zv : Value} {c bb : Nat} [hT : TSlice P t e] [hI : TInfo P e zv c bb] (hd : Nat.ble (d + 1) C.n = true) (k : ∀ b, OL P C ops rest ((d, .slice (some ⟨b, 0, none⟩) 0 0) :: l) ((b, ⟨[], e, (0, 0)⟩) :: H) Q) :
    OL P C ops (⟨some d, .buildSlice t 0 #[], ty, pos, af, none⟩ :: rest) l H Q := by
  refine ol_val (R := fun u K => ∃ b, u = .slice (some ⟨b, 0, none⟩) 0 0 ∧ K = (b, ⟨[], e, (0, 0)⟩) :: H) hd (fun a w hs hw => ?_) (by rintro u K ⟨b, rfl, rfl⟩; exact k b)
  refine ⟨_, _, _, ?_, St.alloc hw ⟨[], e, (0, 0)⟩, _, rfl, rfl⟩
  simp [execOp, Instr.buildSlice, run_underlying_eq hT.h, run_sizeOf_eq hI, Instr.fill, newRow, HO.obj]
  congr 2
  apply Array.ext
  · simp
  · intro i h1 h2; simp at h2

theorem ol_slice1 {zv : Value} {bb : Nat} [hT : TSlice P t e] [hI : TInfo P e zv 1 bb] (hx : ev l x = some v) (h1 : v.oneCell' = true) (hz : zv.cells = #[zv]) (hd : Nat.ble (d + 1) C.n = true)
    (k : ∀ b, OL P C ops rest ((d, .slice (some ⟨b, 0, none⟩) 1 1) :: l) ((b, ⟨[v], e, (0, 0)⟩) :: H) Q) : OL P C ops (⟨some d, .buildSlice t 1 #[(0, x)], ty, pos, af, none⟩ :: rest) l H Q := by
  refine ol_val (R := fun u K => ∃ b, u = .slice (some ⟨b, 0, none⟩) 1 1 ∧ K = (b, ⟨[v], e, (0, 0)⟩) :: H) hd (fun a w hs hw => ?_) (by rintro u K ⟨b, rfl, rfl⟩; exact k b)
  refine ⟨_, _, _, ?_, St.alloc hw ⟨[v], e, (0, 0)⟩, _, rfl, rfl⟩
  have hcells : v.cells = #[v] := by cases v <;> first | rfl | simp [Value.oneCell'] at h1
  simp [execOp, hs.eval hx, Instr.buildSlice, run_underlying_eq hT.h, run_sizeOf_eq hI, run_zeroValue_eq hI, hz, Instr.fill, hcells, newRow, HO.obj]
  congr 2
  apply Array.ext
  · simp
  · intro i h1 h2
    obtain rfl : i = 0 := by simp at h2; omega
    simp

/-! append. -/
/-- The block b is left for the block b'. -/
def Rp : Heap → Nat → HO → Nat → HO → Heap → Prop
  | [], _, _, _, _, _ => False
  | (c, p) :: H, b, o, b', o', K => (c = b ∧ p = o ∧ K = (b', o') :: H) ∨ ∃ K', K = (c, p) :: K' ∧ Rp H b o b' o' K'
variable {b b' : Nat} {o o' : HO} {x0 x1 x2 x3 x4 x5 : Nat × HO}
theorem Rp.tail {y : Nat × HO} (h : Rp H b o b' o' K) : Rp (y :: H) b o b' o' (y :: K) := by
  obtain ⟨c, p⟩ := y; exact .inr ⟨K, rfl, h⟩
theorem r0 : Rp ((b, o) :: H) b o b' o' ((b', o') :: H) := .inl ⟨rfl, rfl, rfl⟩
theorem r1 : Rp (x0 :: (b, o) :: H) b o b' o' (x0 :: (b', o') :: H) := r0.tail
theorem r2 : Rp (x0 :: x1 :: (b, o) :: H) b o b' o' (x0 :: x1 :: (b', o') :: H) := r1.tail
theorem r3 : Rp (x0 :: x1 :: x2 :: (b, o) :: H) b o b' o' (x0 :: x1 :: x2 :: (b', o') :: H) := r2.tail
theorem r4 : Rp (x0 :: x1 :: x2 :: x3 :: (b, o) :: H) b o b' o' (x0 :: x1 :: x2 :: x3 :: (b', o') :: H) := r3.tail
theorem r5 : Rp (x0 :: x1 :: x2 :: x3 :: x4 :: (b, o) :: H) b o b' o' (x0 :: x1 :: x2 :: x3 :: x4 :: (b', o') :: H) := r4.tail
theorem Rp.mem : ∀ {H K : Heap}, Rp H b o b' o' K → (b, o) ∈ H
  | (c, p) :: H, K, h => by
    rcases h with ⟨rfl, rfl, _⟩ | ⟨K', _, h⟩
    · exact List.mem_cons_self
    · exact List.mem_cons_of_mem _ h.mem
theorem Rp.upd : ∀ {H K : Heap}, Rp H b o b o' K → Upd H b o o' K
  | (c, p) :: H, K, h => by
    rcases h with ⟨rfl, rfl, rfl⟩ | ⟨K', rfl, h⟩
    · exact Upd.head
    · exact Upd.tail h.upd
theorem Rp.perm : ∀ {H K : Heap}, Rp H b o b' o' K → ∃ J, J.Sublist H ∧ K.Perm ((b', o') :: J)
  | (c, p) :: H, K, h => by
    rcases h with ⟨rfl, rfl, rfl⟩ | ⟨K', rfl, h⟩
    · exact ⟨H, List.sublist_cons_self _ _, List.Perm.refl _⟩
    · obtain ⟨J, h1, h2⟩ := h.perm
      exact ⟨(c, p) :: J, h1.cons_cons _, (h2.cons _).trans (List.Perm.swap _ _ _)⟩

theorem zeroCells_one (z : Value) (n : Nat) : Builtin.zeroCells #[z] n = (List.replicate n z).toArray := by
  apply Array.ext
  · simp [Builtin.zeroCells]
  · intro i h1 h2
    simp [Builtin.zeroCells, Nat.mod_one]

/-- append(x, y...), x a row of the call's own, its elements of one cell. -/
theorem ol_append {zv : Value} {bb n cap b2 off2 m cap2 : Nat} {o2 : HO} {xs sp ys : List Value} {K : Nat → HO → Heap} [hT : TSlice P t e] [hI : TInfo P e zv 1 bb] (hx : ev l x = some (.slice (some ⟨b, 0, none⟩) n cap)) (hy : ev l y = some (.slice (some ⟨b2, off2, none⟩) m cap2))
    (hr : ∀ b' o', Rp H b ⟨xs ++ sp, e, (0, 0)⟩ b' o' (K b' o')) (h2 : (b2, o2) ∈ H) (hxl : xs.length = n) (hcap : xs.length + sp.length = cap) (hyl : ys.length = m) (hv : (o2.cells.drop off2).take ys.length = ys) (h1 : ∀ u ∈ ys, u.oneCell' = true) (hz : zv.cells = #[zv])
    (hb : (n + m) * bb ≤ 140737488355328) (h63 : n + m ≤ 9223372036854775807) (hd : Nat.ble (d + 1) C.n = true)
    (k : ∀ b' sp', OL P C ops rest ((d, .slice (some ⟨b', 0, none⟩) (n + m) ((xs ++ ys).length + sp'.length)) :: l) (K b' ⟨(xs ++ ys) ++ sp', e, (0, 0)⟩) Q) :
    OL P C ops (⟨some d, .call ⟨.builtin .append, #[x, y], #[t, t]⟩, ty, pos, af, none⟩ :: rest) l H Q := by
  refine ol_val (R := fun u K' => ∃ b' sp', u = .slice (some ⟨b', 0, none⟩) (n + m) ((xs ++ ys).length + sp'.length) ∧ K' = K b' ⟨(xs ++ ys) ++ sp', e, (0, 0)⟩) hd (fun a w hs hw => ?_) (by rintro u K' ⟨b', sp', rfl, rfl⟩; exact k b' sp')
  obtain ⟨i, hi, hz1, hz2, hz3⟩ := hI.get
  have hm := (hr b ⟨xs ++ sp, e, (0, 0)⟩).mem
  have hown := hw.own.has b _ hm
  have hnews : ∀ j u, ys[j]? = some u → w.cell? ((Addr.mk b2 off2 none).add j) = some u := fun j u hj => by
    rw [add_none]
    have hlt : j < ys.length := (List.getElem?_eq_some_iff.1 hj).1
    rw [← hv, List.getElem?_take_of_lt hlt, List.getElem?_drop] at hj
    simp [World.cell?, hw.own.has b2 o2 h2, HO.obj, hj]
  by_cases hfit : n + m ≤ cap
  · -- room
    obtain ⟨w', hrun, hch⟩ := run_storeCells (P := P) (off := n) ys 0 w ⟨xs ++ sp, e, (0, 0)⟩ hown (by simp; omega) rfl h1
    have esp : splice (xs ++ sp) (n + 0) ys = (xs ++ ys) ++ sp.drop ys.length := by
      subst hxl
      simp [splice, List.drop_append, Nat.add_sub_cancel_left]
    simp only [esp] at hch
    refine ⟨.slice (some ⟨b, 0, none⟩) (n + m) cap, _, w', ?_, St.chg hw (hr b ⟨(xs ++ ys) ++ sp.drop ys.length, e, (0, 0)⟩).upd hch, b, sp.drop ys.length, ?_, rfl⟩
    · have hf := run_firstCells_some (P := P) w 1 m ⟨b2, off2, none⟩ m cap2 ys (by omega) hnews
      have hlen : ∀ w : World, (Builtin.lenOf (.slice (some ⟨b2, off2, none⟩) m cap2)).run P w = .ok m w := fun _ => rfl
      have hadd : (Addr.mk b 0 none).add (n * 1) = ⟨b, n, none⟩ := by rw [add_none]; simp
      have hf' : (Builtin.firstCells 1 m (.slice (some ⟨b2, off2, none⟩) m cap2)).run P w = .ok ys.toArray w := hf
      have hst := hrun
      simp [execOp, resolve, invoke, builtin, Builtin.append_, hs.eval hx, hs.eval hy, run_underlying_eq hT.h, run_sizeOf_eq hI, hlen, hfit, hf', add_none, hst]
    · congr 1; simp; omega
  · -- it grows
    have hg : cap < n + m := by omega
    have holds : ∀ j u, xs[j]? = some u → w.cell? ((Addr.mk b 0 none).add j) = some u := fun j u hj => by
      rw [add_none]
      have hlt : j < xs.length := (List.getElem?_eq_some_iff.1 hj).1
      have : (xs ++ sp)[j]? = some u := by rw [List.getElem?_append_left hlt, hj]
      simp [World.cell?, hown, HO.obj, this]
    have hrun := run_append_grow (P := P) w t ty e i zv hT.h hi hz1 ⟨b, 0, none⟩ n cap xs (by rw [hz2]; omega) holds ⟨b2, off2, none⟩ m cap2 ys (by rw [hz2]; omega) hnews hg (by omega)
      (by rw [hz3]; exact growslice_fits hg hb)
    rw [hz, zeroCells_one] at hrun
    obtain ⟨J, hj1, hj2⟩ := (hr w.heap.size ⟨(xs ++ ys) ++ List.replicate (grownCap w (n + m) cap e - (n + m)) zv, e, (0, 0)⟩).perm
    have hge : n + m ≤ grownCap w (n + m) cap e := by simp [grownCap, Question.cut]
    refine ⟨_, _, _, ?_, (((St.drew hw).alloc ⟨(xs ++ ys) ++ List.replicate (grownCap w (n + m) cap e - (n + m)) zv, e, (0, 0)⟩).less (hj1.cons_cons _)).perm hj2.symm, w.heap.size, _, rfl, rfl⟩
    have e1 : (xs ++ ys).length + (List.replicate (grownCap w (n + m) cap e - (n + m)) zv).length = grownCap w (n + m) cap e := by simp; omega
    rw [e1]
    simp only [execOp, resolve, invoke, builtin, Sem.run_bind, hs.eval hx, hs.eval hy, List.map_toArray, List.map_cons, List.map_nil, Sem.run_pure, Result.andThen_ok, hrun, List.append_toArray, HO.obj]
    rfl
end
end Go.HE
