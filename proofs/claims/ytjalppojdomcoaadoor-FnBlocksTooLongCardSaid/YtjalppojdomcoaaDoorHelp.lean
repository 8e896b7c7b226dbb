/- The small functions of package laws, by contracts; structs as values. Conditions: those of the lemmas. -/
import Derived.Test.YtjalppojdomcoaaDoorNew
set_option maxRecDepth 100000
set_option maxHeartbeats 4000000
namespace Go.HE
open Go.RowKit Go.Proofs

def fo1 (P : Program) (t : TypeId) (i : Nat) : Option Nat :=
  match P.underlying t with
  | some (.struct fs) => match fs[i]? with
    | some f => if one P f.type then some f.offset else none
    | none => none
  | _ => none
/-- A field of one cell. -/
class TFld1 (P : Program) (t : TypeId) (i : Nat) (off : outParam Nat) : Prop where
  h : fo1 P t i = some off

section
variable {P : Program} {C : Cx} {l : Env} {H K : Heap} {ops : Array Oper} {rest : List Oper} {d : Nat} {t ty : TypeId} {pos : String} {af : Array Edge} {Q : Exit → Env → Heap → Prop} {x y : Operand} {v : Value}
theorem ev_field {i off : Nat} {cs : Array Value} [hT : TFld1 P t i off] (hx : ev l x = some (.agg cs)) (hc : cs[off]? = some v) : Ev P C H l (.field t x i) ty v := by
  refine ⟨fun a w d pos af g hs hw => ?_⟩
  have h := hT.h
  unfold fo1 at h
  cases hu : P.underlying t with
  | none => simp [hu] at h
  | some dd =>
    rw [hu] at h
    cases dd <;> first | (simp at h; done) | skip
    rename_i fs
    simp only at h
    cases hf : fs[i]? with
    | none => simp [hf] at h
    | some f =>
      rw [hf] at h
      simp only at h
      split at h
      · rename_i h1
        cases h
        simp [execOp, hs.eval hx, Instr.field, run_underlying hu, hf, asAgg, part, run_isAgg_one h1, hc]
      · cases h

theorem ol_storeS {b off n : Nat} {o : HO} {cs : List Value} [hT : TAgg P t n] (hn : n = cs.length) (hx : ev l x = some (.pointer (some ⟨b, off, none⟩))) (hy : ev l y = some (.agg cs.toArray)) (h1 : ∀ u ∈ cs, u.oneCell' = true)
    (hu : Upd H b o ⟨splice o.cells off cs, o.elem, o.fz⟩ K) (hlt : Nat.ble (off + cs.length) o.cells.length = true) (hfz : o.fz = (0, 0)) (k : OL P C ops rest l K Q) : OL P C ops (⟨none, .store t x y, ty, pos, af, none⟩ :: rest) l H Q := by
  subst hn
  refine ol_skip (K := K) (fun a w hs hw => ?_) k
  obtain ⟨w', hr, hch⟩ := run_storeCells (P := P) (off := off) cs 0 w o (hw.own.has b o hu.mem) (Nat.le_of_ble_eq_true hlt) hfz h1
  refine ⟨w', ?_, St.chg hw hu hch⟩
  obtain ⟨i, hi, hs2⟩ := Option.map_eq_some_iff.1 hT.s
  simp [execOp, hs.eval hx, hs.eval hy, Instr.storeAt, Instr.sureAddr, storeVar, Value.cells, sizeOf, typeInfo, hi, hs2, hr]

theorem resC {fn : Func} {a0 b n : Nat} {t1 : TypeId} {o : HO} {cs : List Value} [hT : TAgg P t1 n] (hn : n = cs.length) (hr : fn.results = #[.cell a0 t1]) (h1 : look l a0 = some (.pointer (some ⟨b, 0, none⟩))) (hb : (b, o) ∈ H) (hc : o.cells = cs) : Res P C fn l H (.agg cs.toArray) := by
  subst hn hc
  intro a w hs hw
  have e1 := hs.has _ _ h1
  simp only [Array.getD_eq_getD_getElem?] at e1
  obtain ⟨dd, hu, hd⟩ := Option.map_eq_some_iff.1 hT.u
  have := run_loadAt_mid (P := P) w b 0 t1 o.cells dd (fun j v hj => St.cell hw hb (by simpa using hj)) hu hd hT.s
  simp only [Instr.loadAt, Instr.sureAddr, Sem.run_bind, Sem.run_pure, Result.andThen_ok] at this
  simp [results, hr, e1, asAddr, this]
end

section
variable {W : World}
theorem more_ct (a b : Int) : Ct Tryd.prog W 25 #[.int .i64 a, .int .i64 b] [] (fun v _ => v = .int .i64 (max a b)) := by
  refine ct_of_cw (vs := [_, _]) Tryd.func25 rfl rfl fun w1 => ?_
  refine cw_seq ?_; refine cw_region ?_; refine ol_ev (ev_assign rfl) rfl ?_; refine ol_nil ?_; refine cw_seq ?_; refine cw_seq ?_; refine cw_region ?_; refine ol_ev (ev_move rfl) rfl ?_; refine ol_ev (ev_move rfl) rfl ?_; refine ol_ev (ev_gt rfl rfl) rfl ?_; refine ol_nil ?_
  refine cw_ifd rfl (fun h => ?_) (fun h => ?_)
  · refine cw_seq ?_; refine cw_region ?_; refine ol_ev (ev_move rfl) rfl ?_; refine ol_ev (ev_assign rfl) rfl ?_; refine ol_nil ?_; refine cw_ret ?_
    exact ⟨_, res1 rfl rfl, by rw [Int.max_eq_left (by omega)]⟩
  · refine cw_skip ?_; refine cw_seq ?_; refine cw_region ?_; refine ol_ev (ev_move rfl) rfl ?_; refine ol_ev (ev_assign rfl) rfl ?_; refine ol_nil ?_; refine cw_ret ?_
    exact ⟨_, res1 rfl rfl, by rw [Int.max_eq_right (by omega)]⟩

/-- What 'limit' returns. -/
def limitOf (c most : Int) : Int := if c < 0 then 65536 else max (min c 1048576) most

theorem limit_ct (c most : Int) : Ct Tryd.prog W 16 #[.agg #[.int .i64 c, .int .i64 most]] [] (fun v _ => v = .int .i64 (limitOf c most)) := by
  refine ct_of_cw (vs := [_]) Tryd.func16 rfl rfl fun w1 => ?_
  refine cw_seq ?_; refine cw_region ?_
  refine ol_box rfl rfl fun b => ?_
  refine ol_ev (ev_assign rfl) rfl ?_; refine ol_nil ?_; refine cw_seq ?_; refine cw_seq ?_; refine cw_region ?_; refine ol_ev (ev_fld rfl) rfl ?_; refine ol_ev (ev_load rfl m0 rfl) rfl ?_; refine ol_ev (ev_lt rfl rfl) rfl ?_; refine ol_nil ?_
  refine cw_ifd rfl (fun h => ?_) (fun h => ?_)
  · refine cw_seq ?_; refine cw_region ?_; refine ol_ev (ev_assign rfl) rfl ?_; refine ol_nil ?_; refine cw_ret ?_
    exact ⟨_, res1 rfl rfl, by unfold limitOf; rw [if_pos h]⟩
  · refine cw_skip ?_; refine cw_seq ?_; refine cw_region ?_; refine ol_ev (ev_fld rfl) rfl ?_; refine ol_ev (ev_load rfl m0 rfl) rfl ?_; refine ol_ev (ev_assign rfl) rfl ?_; refine ol_nil ?_; refine cw_seq ?_; refine cw_seq ?_; refine cw_region ?_; refine ol_ev (ev_move rfl) rfl ?_; refine ol_ev (ev_gt rfl rfl) rfl ?_; refine ol_nil ?_
    refine cw_ifd rfl (fun h2 => ?_) (fun h2 => ?_)
    · refine cw_region ?_; refine ol_ev (ev_assign rfl) rfl ?_; refine ol_nil ?_; refine cw_seq ?_; refine cw_region ?_; refine ol_ev (ev_move rfl) rfl ?_; refine ol_ev (ev_fld rfl) rfl ?_; refine ol_ev (ev_load rfl m0 rfl) rfl ?_
      refine ol_call2 (G := []) (cap := []) rfl rfl rfl rfl (more_ct 1048576 most) (List.Perm.refl _) ?_
      rintro v G' rfl
      refine ol_ev (ev_assign rfl) rfl ?_; refine ol_nil ?_; refine cw_ret ?_
      exact ⟨_, res1 rfl rfl, by unfold limitOf; rw [if_neg h, Int.min_eq_right (by omega)]⟩
    · refine cw_skip ?_; refine cw_seq ?_; refine cw_region ?_; refine ol_ev (ev_move rfl) rfl ?_; refine ol_ev (ev_fld rfl) rfl ?_; refine ol_ev (ev_load rfl m0 rfl) rfl ?_
      refine ol_call2 (G := []) (cap := []) rfl rfl rfl rfl (more_ct c most) (List.Perm.refl _) ?_
      rintro v G' rfl
      refine ol_ev (ev_assign rfl) rfl ?_; refine ol_nil ?_; refine cw_ret ?_
      exact ⟨_, res1 rfl rfl, by unfold limitOf; rw [if_neg h, Int.min_eq_left (by omega)]⟩

/-- A list of strings in memory. -/
def StrsAt (H : Heap) (v : Value) (ts : List (List UInt8)) : Prop := ∃ b cap sp, v = .slice (some ⟨b, 0, none⟩) ts.length cap ∧ (b, strO ts sp) ∈ H ∧ ts.length ≤ cap
theorem StrsAt.sub {H K : Heap} {u : Value} {ts : List (List UInt8)} (h : StrsAt H u ts) (hs : ∀ p ∈ H, p ∈ K) : StrsAt K u ts := by
  obtain ⟨b, c, s, h1, h2, h3⟩ := h
  exact ⟨b, c, s, h1, hs _ h2, h3⟩

end

instance : TAgg Tryd.prog 36 2 := ⟨by kernel_rfl, by kernel_rfl⟩
instance : TRow Tryd.prog 36 (.agg #[.slice none 0 0, .int .i64 0]) [(0, 1), (1, 1)] := ⟨by kernel_rfl, by kernel_rfl⟩
instance : TFld1 Tryd.prog 36 0 0 := ⟨by kernel_rfl⟩
instance : TFld1 Tryd.prog 36 1 1 := ⟨by kernel_rfl⟩


section
variable {P : Program} {C : Cx} {l : Env} {H : Heap} {t ty : TypeId} {x y : Operand} {zv v0 v1 : Value} {pl : List (Nat × Nat)} {cells : Array Value} {i0 i1 : Nat}
theorem ev_build2 [hT : TRow P t zv pl] (hx : ev l x = some v0) (hy : ev l y = some v1) (hf : Instr.fill (pl.toArray[·]?) zv.cells [(i0, v0), (i1, v1)] = some cells) : Ev P C H l (.build t #[(i0, x), (i1, y)]) ty (.agg cells) := by
  refine ⟨fun a w d pos af g hs hw => ?_⟩
  have := run_build (P := P) w t #[(i0, v0), (i1, v1)] cells (by rw [built_row]; exact hf)
  simp [execOp, hs.eval hx, hs.eval hy, this]
instance : TRow Tryd.prog 27 (.agg #[.string ⟨#[]⟩, .slice none 0 0, .bool false, .bool false]) [(0, 1), (1, 1), (2, 1), (3, 1)] := ⟨by kernel_rfl, by kernel_rfl⟩
end

section
variable {P : Program} {C : Cx} {ops : Array Oper} {rest : List Oper} {l : Env} {H G R : Heap} {Q : Exit → Env → Heap → Prop}
/-- Of the blocks that a call has left, keep one. -/
theorem OL.keep {b : Nat} {o : HO} (hm : (b, o) ∈ G) (h : OL P C ops rest l ((b, o) :: R) Q) : OL P C ops rest l (G ++ R) Q :=
  OL.less (by simpa using List.Sublist.append (List.singleton_sublist.2 hm) (List.Sublist.refl R)) h
theorem OL.drop (h : OL P C ops rest l R Q) : OL P C ops rest l (G ++ R) Q := OL.less (List.sublist_append_right _ _) h
theorem OL.nil_app (h : OL P C ops rest l H Q) : OL P C ops rest l (H ++ []) Q := OL.perm (List.Perm.of_eq (List.append_nil _)) h
end

section
variable {W : World}
theorem strO_cell {ts : List (List UInt8)} {sp : List Value} {i : Nat} (h : i < ts.length) : (strO ts sp).cells[0 + ((i : Int)).toNat]? = some (str ts[i]) := by
  show (ts.map str ++ sp)[0 + i]? = _
  rw [Nat.zero_add, List.getElem?_append_left (by simpa using h)]; simp [h]
theorem StrsAt.take {H : Heap} {b cap : Nat} {ts : List (List UInt8)} {sp : List Value} {i : Nat} (hm : (b, strO ts sp) ∈ H) (h : i ≤ ts.length) (hc : i ≤ cap) : StrsAt H (.slice (some ⟨b, 0, none⟩) i cap) (ts.take i) := by
  refine ⟨b, cap, (ts.drop i).map str ++ sp, ?_, ?_, by simp; omega⟩
  · rw [List.length_take, Nat.min_eq_left h]
  · have : strO (ts.take i) ((ts.drop i).map str ++ sp) = strO ts sp := by
      unfold strO
      rw [← List.append_assoc, ← List.map_append, List.take_append_drop]
    rw [this]; exact hm
/-- A list of strings that can be read: in memory of the call's own, or in old memory. -/
def Strs (W : World) (H : Heap) (v : Value) (ts : List (List UInt8)) : Prop :=
  ∃ a cap, v = .slice a ts.length cap ∧ ts.length ≤ cap ∧ ∀ i t, ts[i]? = some t → ∃ b off, a = some ⟨b, off, none⟩ ∧ ((∃ o, (b, o) ∈ H ∧ o.cells[off + i]? = some (str t)) ∨ W.cell? ⟨b, off + i, none⟩ = some (str t))
theorem StrsAt.strs {H : Heap} {v : Value} {ts : List (List UInt8)} (h : StrsAt H v ts) : Strs W H v ts := by
  obtain ⟨b, cap, sp, rfl, hm, hc⟩ := h
  refine ⟨_, cap, rfl, hc, fun i t hi => ⟨b, 0, rfl, .inl ⟨_, hm, ?_⟩⟩⟩
  have hlt : i < ts.length := (List.getElem?_eq_some_iff.1 hi).1
  rw [List.getElem?_eq_getElem hlt] at hi
  cases hi
  exact strO_cell hlt
theorem Strs.sub {H K : Heap} {u : Value} {ts : List (List UInt8)} (h : Strs W H u ts) (hs : ∀ p ∈ H, p ∈ K) : Strs W K u ts := by
  obtain ⟨a, cap, h1, h2, h3⟩ := h
  refine ⟨a, cap, h1, h2, fun i t hi => ?_⟩
  obtain ⟨b, off, e, k⟩ := h3 i t hi
  refine ⟨b, off, e, ?_⟩
  rcases k with ⟨o, ho, hc⟩ | k
  · exact .inl ⟨o, hs _ ho, hc⟩
  · exact .inr k
theorem ev_loadR {P : Program} {C : Cx} {l : Env} {H : Heap} {t ty : TypeId} {x : Operand} {v : Value} {b off : Nat} [hT : TOne P t] (hx : ev l x = some (.pointer (some ⟨b, off, none⟩))) (h : (∃ o, (b, o) ∈ H ∧ o.cells[off]? = some v) ∨ C.W.cell? ⟨b, off, none⟩ = some v) : Ev P C H l (.load t x) ty v := by
  rcases h with ⟨o, ho, hc⟩ | h
  · exact ev_load hx ho hc
  · exact ev_loadW hx h

theorem same_ct' (H : Heap) (u v : Value) (xs ys : List (List UInt8)) (hu : Strs W H u xs) (hv : Strs W H v ys) (hl : xs.length ≤ 4611686018427387904) :
    Ct Tryd.prog W 18 #[u, v] H (fun r H' => r = .bool (decide (xs = ys)) ∧ H' = H) := by
  obtain ⟨a1, c1, rfl, _, hu⟩ := hu
  obtain ⟨a2, c2, rfl, _, hv⟩ := hv
  refine ct_of_cw (vs := [_, _]) Tryd.func18 rfl rfl fun w1 => ?_
  refine cw_seq ?_; refine cw_region ?_; refine ol_ev (ev_assign rfl) rfl ?_; refine ol_nil ?_; refine cw_seq ?_; refine cw_seq ?_; refine cw_region ?_; refine ol_ev (ev_move rfl) rfl ?_; refine ol_ev (ev_len_s rfl) rfl ?_; refine ol_ev (ev_move rfl) rfl ?_; refine ol_ev (ev_len_s rfl) rfl ?_; refine ol_ev (ev_ne rfl rfl) rfl ?_; refine ol_nil ?_
  refine cw_ifd rfl (fun h => ?_) (fun h => ?_)
  · refine cw_seq ?_; refine cw_region ?_; refine ol_ev (ev_assign rfl) rfl ?_; refine ol_nil ?_; refine cw_ret ?_
    refine ⟨_, res1 rfl rfl, ?_, rfl⟩
    rw [decide_eq_false (fun e => h (by rw [e]))]
  · have hlen : xs.length = ys.length := by omega
    refine cw_skip ?_; refine cw_seq ?_; refine cw_seq ?_; refine cw_region ?_; refine ol_ev (ev_assign rfl) rfl ?_; refine ol_nil ?_; refine cw_block ?_
    refine cw_loop (σ := Nat) (fun i => [(0, .slice a1 xs.length c1), (1, .slice a2 ys.length c2), (5, .int .i64 (i : Int))]) (fun _ => H)
      (fun i => i ≤ xs.length ∧ xs.take i = ys.take i) (fun i => xs.length - i) 0 ⟨Nat.zero_le _, rfl⟩ (fun a ha => ha.weak ⟨rfl, rfl, rfl, trivial⟩) rfl ?_
    rintro i ⟨hi, ht⟩
    refine cw_seq ?_; refine cw_seq ?_; refine cw_region ?_; refine ol_ev (ev_move rfl) rfl ?_; refine ol_ev (ev_move rfl) rfl ?_; refine ol_ev (ev_len_s rfl) rfl ?_; refine ol_ev (ev_lt rfl rfl) rfl ?_; refine ol_nil ?_
    refine cw_ifd rfl (fun h2 => ?_) (fun h2 => ?_)
    · have hx : i < xs.length := by omega
      have hy : i < ys.length := by omega
      obtain ⟨b1, o1, e1, k1⟩ := hu i _ (List.getElem?_eq_getElem hx)
      obtain ⟨b2, o2, e2, k2⟩ := hv i _ (List.getElem?_eq_getElem hy)
      subst e1 e2
      have hstep : xs[i] = ys[i] → xs.take (i + 1) = ys.take (i + 1) := fun e => by
        rw [List.take_add_one, List.take_add_one, ht, List.getElem?_eq_getElem hx, List.getElem?_eq_getElem hy, e]
      refine cw_skip ?_; refine cw_seq ?_; refine cw_block ?_; refine cw_seq ?_
      refine cw_still mixed (by kernel_rfl) ?_
      refine sl_ev (ev_move rfl) rfl ?_; refine sl_ev (ev_move rfl) rfl ?_
      refine sl_ev (ev_idx1 rfl rfl (by omega) (by omega)) rfl ?_
      refine sl_ev (ev_loadR rfl k1) rfl ?_
      refine sl_ev (ev_move rfl) rfl ?_; refine sl_ev (ev_move rfl) rfl ?_
      refine sl_ev (ev_idx1 rfl rfl (by omega) (by omega)) rfl ?_
      refine sl_ev (ev_loadR rfl k2) rfl ?_
      refine sl_ev (ev_ne_str rfl rfl) rfl ?_; refine sl_nil ?_
      refine cw_ifd rfl (fun h3 => ?_) (fun h3 => ?_)
      · refine cw_seq ?_; refine cw_region ?_; refine ol_ev (ev_assign rfl) rfl ?_; refine ol_nil ?_; refine cw_ret ?_
        refine ⟨_, res1 rfl rfl, ?_, rfl⟩
        rw [decide_eq_false (fun e => h3 (by subst e; rfl))]
      · refine cw_skip ?_; refine cw_region ?_; refine ol_ev (ev_move rfl) rfl ?_; (refine ol_ev (ev_add rfl rfl ?_) rfl ?_; (constructor <;> omega)); refine ol_ev (ev_assign rfl) rfl ?_; refine ol_nil ?_
        exact ⟨i + 1, ⟨by omega, hstep (Classical.not_not.1 h3)⟩, ⟨rfl, rfl, rfl, trivial⟩, rfl, by omega⟩
    · have hend : i = xs.length := by omega
      refine cw_exit ?_; refine cw_seq ?_; refine cw_region ?_; refine ol_ev (ev_assign rfl) rfl ?_; refine ol_nil ?_; refine cw_ret ?_
      refine ⟨_, res1 rfl rfl, ?_, rfl⟩
      rw [hend, List.take_length, hlen, List.take_length] at ht
      rw [decide_eq_true ht]
theorem same_ct (H : Heap) (u v : Value) (xs ys : List (List UInt8)) (hu : StrsAt H u xs) (hv : StrsAt H v ys) (hl : xs.length ≤ 4611686018427387904) :
    Ct Tryd.prog W 18 #[u, v] H (fun r H' => r = .bool (decide (xs = ys)) ∧ H' = H) := same_ct' H u v xs ys hu.strs hv.strs hl
end
end Go.HE
