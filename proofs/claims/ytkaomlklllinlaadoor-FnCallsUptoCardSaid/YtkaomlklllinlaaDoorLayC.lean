/- All tokens of a text within layers, by a contract. Conditions: the errors and the tables of UTF-8 are as start-up lays them; the pieces lie in old memory; the text is shorter than the limit, and has at most 2 to the 39th bytes. -/
import Derived.Test.YtkaomlklllinlaaDoorLayered
import Derived.Test.YtkaomlklllinlaaDoorBytes
set_option maxRecDepth 100000
set_option maxHeartbeats 4000000
namespace Go.HE
open Go.RowKit Go.Proofs Go.Shelf

instance : TRow Tryd.prog 34 (.agg #[.int .i64 0, .int .i64 0, .string ⟨#[]⟩]) [(0, 1), (1, 1), (2, 1)] := ⟨by kernel_rfl, by kernel_rfl⟩

/-- An error that layers leave. -/
def OkE (e : Option Nat) : Prop := e = none ∨ e = some 7 ∨ e = some 3 ∨ e = some 4
theorem Ly.err_ok (l : Ly) (ts : List (List UInt8)) {e : Option Nat} (h : OkE e) : OkE (l.err ts e) := by
  unfold Ly.err
  split
  · unfold takeE; split
    · exact h
    · exact .inl rfl
  split
  · unfold untilE; split
    · split
      · exact .inr (.inl rfl)
      · exact .inl rfl
    · exact h
  split
  · unfold strayE; split
    · exact h
    · split
      · exact .inr (.inr (.inr rfl))
      · exact .inr (.inr (.inl rfl))
  · exact h
theorem Ly.toks_len (l : Ly) (ts : List (List UInt8)) : (l.toks ts).length ≤ ts.length := by
  unfold Ly.toks
  split
  · rw [List.length_take]; omega
  split
  · exact (List.takeWhile_sublist _).length_le
  split
  · exact List.length_filter_le _ _
  split
  · simp
  split
  · simp
  split
  · rw [List.length_take]; omega
  · exact Nat.le_refl _
theorem laysT_ok : ∀ (ls : List Ly) (ts : List (List UInt8)) (e : Option Nat), OkE e → OkE (laysT ls ts e).2 ∧ (laysT ls ts e).1.length ≤ ts.length
  | [], ts, e, h => ⟨h, Nat.le_refl _⟩
  | l :: ls, ts, e, h => by
    have := laysT_ok ls (l.toks ts) (l.err ts e) (l.err_ok ts h)
    exact ⟨this.1, Nat.le_trans this.2 (l.toks_len ts)⟩
theorem OkE.ne0 {e : Option Nat} (h : OkE e) : e ≠ some 0 := by rcases h with rfl | rfl | rfl | rfl <;> simp
theorem BaseOf.okE {b : Bs} {text : List UInt8} {ts : List (List UInt8)} {err : Option Nat} (h : BaseOf sepOf b text ts err) : OkE err := by
  rcases h.err with rfl | rfl
  · exact .inl rfl
  · exact .inr (.inl rfl)

/-- A block of layers. -/
def laysO (ls : List Ly) : HO := ⟨(ls.map Ly.cells).flatten, 34, (0, 0)⟩
theorem lays_cells : ∀ (ls : List Ly) (i : Nat) (l : Ly), ls[i]? = some l → (((ls.map Ly.cells).flatten).drop (0 + i * 3)).take 3 = l.cells
  | [], i, l, h => by simp at h
  | a :: ls, 0, l, h => by
    obtain rfl : a = l := by simpa using h
    rfl
  | a :: ls, i + 1, l, h => by
    have := lays_cells ls i l (by simpa using h)
    rw [Nat.zero_add] at this ⊢
    rw [List.map_cons, List.flatten_cons, show (i + 1) * 3 = 3 + i * 3 by omega, ← List.drop_drop]
    exact this

section
variable {W : World} {E : Nat → Addr}
theorem laysO_at {H : Heap} {lb : Nat} {ls : List Ly} (h : (lb, laysO ls) ∈ H) : LaysAt W H (.slice (some ⟨lb, 0, none⟩) ls.length ls.length) ls :=
  ⟨_, _, rfl, fun i l hi => ⟨lb, 0, rfl, .inl ⟨_, h, lays_cells ls i l hi⟩⟩⟩
theorem lays_nil {H : Heap} : LaysAt W H (.slice none 0 0) [] := ⟨none, 0, rfl, fun i l hi => by simp at hi⟩

section
variable {P : Program} {C : Cx} {ops : Array Oper} {rest : List Oper} {l : Env} {H K : Heap} {Q : Exit → Env → Heap → Prop} {ty : TypeId} {pos : String} {af : Array Edge} {d : Nat} {x y : Operand}
theorem ol_lays1 {a : Ly} (hx : ev l x = some (.agg a.cells.toArray)) (hd : Nat.ble (d + 1) C.n = true)
    (k : ∀ b, OL Tryd.prog C ops rest ((d, .slice (some ⟨b, 0, none⟩) [a].length [a].length) :: l) ((b, laysO [a]) :: H) Q) : OL Tryd.prog C ops (⟨some d, .buildSlice 35 1 #[(0, x)], ty, pos, af, none⟩ :: rest) l H Q := by
  have hT : TSlice Tryd.prog 35 34 := inferInstance
  have hI : TInfo Tryd.prog 34 (.agg #[.int .i64 0, .int .i64 0, .string ⟨#[]⟩]) 3 _ := inferInstance
  refine ol_val (R := fun u K => ∃ b, u = .slice (some ⟨b, 0, none⟩) [a].length [a].length ∧ K = (b, laysO [a]) :: H) hd (fun a' w hs hw => ?_) (by rintro u K ⟨b, rfl, rfl⟩; exact k b)
  refine ⟨_, _, _, ?_, St.alloc hw (laysO [a]), _, rfl, rfl⟩
  simp [execOp, hs.eval hx, Instr.buildSlice, run_underlying_eq hT.h, run_sizeOf_eq hI, run_zeroValue_eq hI, Instr.fill, newRow, HO.obj, laysO, Ly.cells, Value.cells, show Array.range 3 = #[0, 1, 2] by decide]
theorem ol_lays2 {a b : Ly} (hx : ev l x = some (.agg a.cells.toArray)) (hy : ev l y = some (.agg b.cells.toArray)) (hd : Nat.ble (d + 1) C.n = true)
    (k : ∀ lb, OL Tryd.prog C ops rest ((d, .slice (some ⟨lb, 0, none⟩) [a, b].length [a, b].length) :: l) ((lb, laysO [a, b]) :: H) Q) : OL Tryd.prog C ops (⟨some d, .buildSlice 35 2 #[(0, x), (1, y)], ty, pos, af, none⟩ :: rest) l H Q := by
  have hT : TSlice Tryd.prog 35 34 := inferInstance
  have hI : TInfo Tryd.prog 34 (.agg #[.int .i64 0, .int .i64 0, .string ⟨#[]⟩]) 3 _ := inferInstance
  refine ol_val (R := fun u K => ∃ lb, u = .slice (some ⟨lb, 0, none⟩) [a, b].length [a, b].length ∧ K = (lb, laysO [a, b]) :: H) hd (fun a' w hs hw => ?_) (by rintro u K ⟨b, rfl, rfl⟩; exact k b)
  refine ⟨_, _, _, ?_, St.alloc hw (laysO [a, b]), _, rfl, rfl⟩
  simp [execOp, hs.eval hx, hs.eval hy, Instr.buildSlice, run_underlying_eq hT.h, run_sizeOf_eq hI, run_zeroValue_eq hI, Instr.fill, newRow, HO.obj, laysO, Ly.cells, Value.cells, show Array.range 6 = #[0, 1, 2, 3, 4, 5] by decide]
end

theorem Layered_ct (hE : Errs W E) (hT : Lib.Utf8Tabs 10 11 W) (ps : List Int) (text : List UInt8) (pv : Value) (tog : Bool) (c most : Int) (b : Bs) (hxl : b.x.length ≤ 549755813888) (H : Heap) (lv : Value) (ls : List Ly) (hls : LaysAt W H lv ls) (hll : ls.length ≤ 1099511627776) (hln : ∀ l ∈ ls, l.n ≤ 9223372036854775807)
    (hpv : Pcs W pv ps) (htl : text.length ≤ 549755813888) (hpl : ps.length ≤ 4611686018427387904) (hmost : most ≤ 9223372036854775807) (hlim : ((text.length : Nat) : Int) + 1 < limitOf c most) (ts : List (List UInt8)) (err : Option Nat) (hb : BaseOf sepOf b text ts err) :
    Ct Tryd.prog W 14 #[.agg #[str text, pv, .bool tog, .bool false], .agg #[.int .i64 c, .int .i64 most], .agg b.cells.toArray, lv] H (fun v H' => ∃ u, v = .tuple #[u, .int .i64 (codeOf (laysT ls ts err).2)] ∧ StrsAt H' u (laysT ls ts err).1) := by
  obtain ⟨hokE, hlen⟩ := laysT_ok ls ts err hb.okE
  have htn := hb.len sepOf_ne
  refine ct_of_cw (vs := [_, _, _, _]) Tryd.func14 rfl rfl fun w1 => ?_
  refine cw_seq ?_; refine cw_region ?_
  refine ol_box rfl rfl fun b4 => ?_
  refine ol_box rfl rfl fun b5 => ?_
  refine ol_box rfl rfl fun b6 => ?_
  refine ol_ev (ev_assign rfl) rfl ?_; refine ol_ev (ev_assign rfl) rfl ?_; refine ol_nil ?_; refine cw_seq ?_
  refine cw_float [(0, false), (1, false), (2, false), (3, false), (4, true), (5, true), (6, true), (7, false), (8, false), (9, false), (10, false)] [(b6, ⟨(Value.agg b.cells.toArray).cells.toList, 28, (0, 0)⟩), (b5, ⟨[.int .i64 c, .int .i64 most], 26, (0, 0)⟩), (b4, ⟨[str text, pv, .bool tog, .bool false], 24, (0, 0)⟩)] mixed (by kernel_rfl) (List.sublist_append_left [_, _, _] H) (fun _ _ _ h => h) (fun _ _ h => h) ?_
  refine fl_ev rfl (ev_loadS (cs := [str text, pv, .bool tog, .bool false]) rfl rfl m2 rfl) rfl ?_
  refine fl_ev rfl (ev_loadS (cs := [.int .i64 c, .int .i64 most]) rfl rfl m1 rfl) rfl ?_
  refine fl_ev rfl (ev_loadS (cs := b.cells) rfl rfl m0 rfl) rfl ?_
  refine fl_ev rfl (ev_move rfl) rfl ?_
  refine fl_x rfl ?_
  refine ol_call2 (G := H) (cap := []) rfl rfl rfl rfl (layered_ct hE hT b hxl H lv ls hls hll hln text ts err hb) (List.perm_append_comm (l₁ := [_, _, _]) (l₂ := H)) ?_
  rintro v G' ⟨σ, fid, cap, step, I, Q, s, rfl, hok, hso, hf, hI, hr⟩
  obtain ⟨k, x2, htk, hx0⟩ := all_toks (fits_good (L := (limitOf c most).toNat) hso hf (by omega)) ps (run_ql hf hr (by omega)) pv tog c most (by omega) hokE.ne0
  refine ol_nil ⟨sub_right, ?_⟩
  refine fl_x rfl ?_
  refine ol_call3 (G := G') (cap := []) rfl rfl rfl rfl rfl (scanner_ct (E := E) hok ps s G' text pv tog false c most hI hpv (by omega) hpl hmost) (List.Perm.refl _) ?_
  rintro v G2 ⟨sb, rb, rfl, hready⟩
  refine ol_nil ⟨sub_right, ?_⟩
  refine fl_x rfl ?_
  refine ol_call1 (G := G2) (cap := []) rfl rfl rfl (tokens_ct hE hok ps k _ false _ x2 sb rb G2 htk hready (by omega)) (List.Perm.refl _) ?_
  rintro v G3 ⟨bo, sp, rfl, hmem⟩
  rw [hx0]
  refine ol_nil ⟨sub_right, ?_⟩
  refine fl_ev rfl (ev_extract rfl rfl) rfl ?_; refine fl_ev rfl (ev_extract rfl rfl) rfl ?_; refine fl_ev rfl (ev_assign rfl) rfl ?_; refine fl_ev rfl (ev_assign rfl) rfl ?_
  refine fl_nil ?_
  refine cw_ret ?_
  exact ⟨_, res2 rfl rfl rfl, _, rfl, bo, _, sp, rfl, List.mem_append_left _ hmem, Nat.le_add_right _ _⟩

theorem living_ct (hE : Errs W E) (ps : List Int) (text : List UInt8) (pv : Value) (tog : Bool) (c most : Int) (hpv : Pcs W pv ps) (htl : text.length ≤ 549755813888) (hpl : ps.length ≤ 4611686018427387904) (hmost : most ≤ 9223372036854775807) (hlim : 0 < limitOf c most) :
    Ct Tryd.prog W 17 #[.agg #[str text, pv, .bool tog, .bool false], .agg #[.int .i64 c, .int .i64 most]] [] (fun v _ => v = .bool true) := by
  refine ct_of_cw (vs := [_, _]) Tryd.func17 rfl rfl fun w1 => ?_
  refine cw_seq ?_; refine cw_region ?_
  refine ol_box rfl rfl fun b2 => ?_
  refine ol_box rfl rfl fun b3 => ?_
  refine ol_ev (ev_assign rfl) rfl ?_; refine ol_nil ?_; refine cw_seq ?_; refine cw_region ?_
  refine ol_ev (ev_loadS (cs := [str text, pv, .bool tog, .bool false]) rfl rfl m1 rfl) rfl ?_
  refine ol_ev (ev_loadS (cs := [.int .i64 c, .int .i64 most]) rfl rfl m0 rfl) rfl ?_
  refine ol_call2 (G := []) (cap := []) rfl rfl rfl rfl (bytes_ct hE ps text pv tog c most hpv (by omega) hpl hmost hlim) (List.Perm.refl _) ?_
  rintro v G' ⟨u, rfl, ⟨bg, cg, sg, rfl, hg, hcg⟩⟩
  refine OL.keep hg ?_
  refine ol_ev (ev_move rfl) rfl ?_; refine ol_ev (ev_extract rfl rfl) rfl ?_; refine ol_ev (ev_extract rfl rfl) rfl ?_; refine ol_ev (ev_assign rfl) rfl ?_; refine ol_ev (ev_assign rfl) rfl ?_; refine ol_nil ?_; refine cw_seq ?_; refine cw_region ?_; refine ol_ev (ev_move rfl) rfl ?_; refine ol_ev (ev_len_s rfl) rfl ?_; refine ol_ev (ev_fld rfl) rfl ?_; refine ol_ev (ev_load rfl m2 rfl) rfl ?_; refine ol_ev (ev_len_str rfl) rfl ?_; refine ol_ev (ev_eq rfl rfl) rfl ?_; refine ol_ev (ev_assign rfl) rfl ?_; refine ol_nil ?_; refine cw_ret ?_
  rw [decide_eq_true (show (((singles text).length : Nat) : Int) = ((text.length : Nat) : Int) by simp [singles])]
  skip
  exact ⟨_, res1 rfl rfl, rfl⟩
end
end Go.HE
