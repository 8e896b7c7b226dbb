/- Calls of a scanner by a script, by a contract. Conditions: the errors and the tables of UTF-8 are as start-up lays them; the pieces, the layers and the script lie in old memory; the text is shorter than the limit, and has at most 2 to the 39th bytes. -/
import Derived.Test.YtkaomlklllinlaaDoorCallsP
import Derived.Test.YtkaomlklllinlaaDoorFork
set_option maxRecDepth 100000
set_option maxHeartbeats 4000000
namespace Go.HE
open Go.RowKit Go.Proofs Go.Shelf
section
variable {P : Program} {C : Cx} {ops : Array Oper} {rest : List Oper} {l : Env} {H : Heap} {Q : Exit → Env → Heap → Prop} {ty t e : TypeId} {pos : String} {af : Array Edge} {d : Nat} {x y : Operand}
/-- append(x, y...), x a row of the call's own, its elements of so many cells. -/
theorem ol_append_c {zv : Value} {c bb n r b b2 off2 m cap2 : Nat} {o2 : HO} {xs sp ys : List Value} {K : Nat → HO → Heap} [hT : TSlice P t e] [hI : TInfo P e zv c bb] (hx : ev l x = some (.slice (some ⟨b, 0, none⟩) n (n + r))) (hy : ev l y = some (.slice (some ⟨b2, off2, none⟩) m cap2))
    (hr : ∀ b' o', Rp H b ⟨xs ++ sp, e, (0, 0)⟩ b' o' (K b' o')) (h2 : (b2, o2) ∈ H) (hxl : xs.length = n * c) (hsl : sp.length = r * c) (hyl : ys.length = m * c) (hv : (o2.cells.drop off2).take ys.length = ys) (h1 : ∀ u ∈ ys, u.oneCell' = true) (hz : zv.cells.size = c)
    (hb : (n + m) * bb ≤ 140737488355328) (h63 : n + m ≤ 9223372036854775807) (hd : Nat.ble (d + 1) C.n = true)
    (k : ∀ b' r' sp', sp'.length = r' * c → OL P C ops rest ((d, .slice (some ⟨b', 0, none⟩) (n + m) (n + m + r')) :: l) (K b' ⟨(xs ++ ys) ++ sp', e, (0, 0)⟩) Q) :
    OL P C ops (⟨some d, .call ⟨.builtin .append, #[x, y], #[t, t]⟩, ty, pos, af, none⟩ :: rest) l H Q := by
  refine ol_val (R := fun u K' => ∃ b' r' sp', sp'.length = r' * c ∧ u = .slice (some ⟨b', 0, none⟩) (n + m) (n + m + r') ∧ K' = K b' ⟨(xs ++ ys) ++ sp', e, (0, 0)⟩) hd (fun a w hs hw => ?_) (by rintro u K' ⟨b', r', sp', h, rfl, rfl⟩; exact k b' r' sp' h)
  obtain ⟨i, hi, hz1, hz2, hz3⟩ := hI.get
  have hm := (hr b ⟨xs ++ sp, e, (0, 0)⟩).mem
  have hown := hw.own.has b _ hm
  have hnews : ∀ j u, ys[j]? = some u → w.cell? ((Addr.mk b2 off2 none).add j) = some u := fun j u hj => by
    rw [add_none]
    have hlt : j < ys.length := (List.getElem?_eq_some_iff.1 hj).1
    rw [← hv, List.getElem?_take_of_lt hlt, List.getElem?_drop] at hj
    simp [World.cell?, hw.own.has b2 o2 h2, HO.obj, hj]
  by_cases hfit : n + m ≤ n + r
  · have hle : ys.length ≤ sp.length := by rw [hyl, hsl]; exact Nat.mul_le_mul_right c (by omega)
    obtain ⟨w', hrun, hch⟩ := run_storeCells (P := P) (off := n * c) ys 0 w ⟨xs ++ sp, e, (0, 0)⟩ hown (by simp; omega) rfl h1
    have esp : splice (xs ++ sp) (n * c + 0) ys = (xs ++ ys) ++ sp.drop ys.length := by
      rw [← hxl]
      simp [splice, List.drop_append, Nat.add_sub_cancel_left]
    simp only [esp] at hch
    refine ⟨.slice (some ⟨b, 0, none⟩) (n + m) (n + r), _, w', ?_, St.chg hw (hr b ⟨(xs ++ ys) ++ sp.drop ys.length, e, (0, 0)⟩).upd hch, b, r - m, sp.drop ys.length, ?_, ?_, rfl⟩
    · have hf' : (Builtin.firstCells c m (.slice (some ⟨b2, off2, none⟩) m cap2)).run P w = .ok ys.toArray w := run_firstCells_some (P := P) w c m ⟨b2, off2, none⟩ m cap2 ys hyl hnews
      have hlen : ∀ w : World, (Builtin.lenOf (.slice (some ⟨b2, off2, none⟩) m cap2)).run P w = .ok m w := fun _ => rfl
      have hst := hrun
      have hfit' : m ≤ r := by omega
      simp [execOp, resolve, invoke, builtin, Builtin.append_, hs.eval hx, hs.eval hy, run_underlying_eq hT.h, run_sizeOf_eq hI, hlen, hfit', hf', add_none, hst]
    · rw [List.length_drop, hsl, hyl, Nat.sub_mul]
    · congr 1; omega
  · have hg : n + r < n + m := by omega
    have holds : ∀ j u, xs[j]? = some u → w.cell? ((Addr.mk b 0 none).add j) = some u := fun j u hj => by
      rw [add_none]
      have hlt : j < xs.length := (List.getElem?_eq_some_iff.1 hj).1
      have : (xs ++ sp)[j]? = some u := by rw [List.getElem?_append_left hlt, hj]
      simp [World.cell?, hown, HO.obj, this]
    have hrun := run_append_grow (P := P) w t ty e i zv hT.h hi hz1 ⟨b, 0, none⟩ n (n + r) xs (by rw [hz2]; exact hxl) holds ⟨b2, off2, none⟩ m cap2 ys (by rw [hz2]; exact hyl) hnews hg (by omega)
      (by rw [hz3]; exact growslice_fits hg hb)
    obtain ⟨J, hj1, hj2⟩ := (hr w.heap.size ⟨(xs ++ ys) ++ (Builtin.zeroCells zv.cells (grownCap w (n + m) (n + r) e - (n + m))).toList, e, (0, 0)⟩).perm
    have hge : n + m ≤ grownCap w (n + m) (n + r) e := by simp [grownCap, Question.cut]
    refine ⟨_, _, _, ?_, (((St.drew hw).alloc ⟨(xs ++ ys) ++ (Builtin.zeroCells zv.cells (grownCap w (n + m) (n + r) e - (n + m))).toList, e, (0, 0)⟩).less (hj1.cons_cons _)).perm hj2.symm, w.heap.size, grownCap w (n + m) (n + r) e - (n + m), _, ?_, rfl, rfl⟩
    · rw [Nat.add_sub_cancel' hge]
      simp only [execOp, resolve, invoke, builtin, Sem.run_bind, hs.eval hx, hs.eval hy, List.map_toArray, List.map_cons, List.map_nil, Sem.run_pure, Result.andThen_ok, hrun, HO.obj]
      simp
      congr 2
      apply Array.ext'
      simp
    · simp [Builtin.zeroCells, hz]
end
instance : TAgg Tryd.prog 48 3 := ⟨by kernel_rfl, by kernel_rfl⟩
instance : TRow Tryd.prog 48 (.agg #[.bool false, .string ⟨#[]⟩, .int .i64 0]) [(0, 1), (1, 1), (2, 1)] := ⟨by kernel_rfl, by kernel_rfl⟩
def Cl.cells (c : Cl) : List Value := [.bool c.ok, str c.text, .int .i64 c.err]
/-- A block of what calls tell. -/
def clO (cs : List Cl) (sp : List Value) : HO := ⟨(cs.map Cl.cells).flatten ++ sp, 48, (0, 0)⟩
theorem cl_len : ∀ cs : List Cl, ((cs.map Cl.cells).flatten).length = cs.length * 3
  | [] => rfl
  | c :: cs => by rw [List.map_cons, List.flatten_cons, List.length_append, cl_len cs, List.length_cons]; simp [Cl.cells]; omega
theorem cl_snoc (cs : List Cl) (c : Cl) : (cs.map Cl.cells).flatten ++ c.cells = ((cs ++ [c]).map Cl.cells).flatten := by simp
section
variable {C : Cx} {ops : Array Oper} {rest : List Oper} {l : Env} {H : Heap} {Q : Exit → Env → Heap → Prop} {ty : TypeId} {pos : String} {af : Array Edge} {d : Nat} {x : Operand}
theorem ol_cl1 {a : Cl} (hx : ev l x = some (.agg a.cells.toArray)) (hd : Nat.ble (d + 1) C.n = true)
    (k : ∀ b, OL Tryd.prog C ops rest ((d, .slice (some ⟨b, 0, none⟩) 1 1) :: l) ((b, ⟨a.cells, 48, (0, 0)⟩) :: H) Q) : OL Tryd.prog C ops (⟨some d, .buildSlice 45 1 #[(0, x)], ty, pos, af, none⟩ :: rest) l H Q := by
  have hT : TSlice Tryd.prog 45 48 := inferInstance
  have hI : TInfo Tryd.prog 48 (.agg #[.bool false, .string ⟨#[]⟩, .int .i64 0]) 3 _ := inferInstance
  refine ol_val (R := fun u K => ∃ b, u = .slice (some ⟨b, 0, none⟩) 1 1 ∧ K = (b, ⟨a.cells, 48, (0, 0)⟩) :: H) hd (fun a' w hs hw => ?_) (by rintro u K ⟨b, rfl, rfl⟩; exact k b)
  refine ⟨_, _, _, ?_, St.alloc hw ⟨a.cells, 48, (0, 0)⟩, _, rfl, rfl⟩
  simp [execOp, hs.eval hx, Instr.buildSlice, run_underlying_eq hT.h, run_sizeOf_eq hI, run_zeroValue_eq hI, Instr.fill, newRow, HO.obj, Cl.cells, Value.cells, show Array.range 3 = #[0, 1, 2] by decide]
end

section
variable {W : World} {E : Nat → Addr} {σ : Type} {fid : Nat} {cap : List Value} {step : σ → List UInt8 → Bool → Ans σ} {I : σ → Heap → Prop}
/-- A scanner between two calls, with what is known of its token. -/
def RT (W : World) (E : Nat → Addr) (ps : List Int) (I : σ → Heap → Prop) (sb rb : Nat) (sv : Value) (m : M σ) (dn : Bool) (kt : Option (List UInt8)) (H : Heap) : Prop :=
  (∃ bb bs tok T called, H = (sb, scL E rb sv m.mx tok (.slice (some ⟨bb, 0, none⟩) m.blen m.blen) m.start (m.start + m.data.length) m.err m.emp called dn) :: (rb, m.rd.ho) :: (bb, bufO bs) :: T ∧ Inv W ps I m bb bs tok T ∧ ∀ t, kt = some t → TokAt ((bb, bufO bs) :: T) tok t) ∨
  (dn = false ∧ kt = none ∧ ∃ T called, H = nilH E sb rb sv m called T ∧ (m.data = [] ∧ m.start = 0 ∧ m.blen = 0 ∧ m.err = none ∧ m.emp = 0 ∧ 0 < m.mx) ∧ MOk ps W m ∧ I m.s T)
theorem RT.ready {ps : List Int} {sb rb : Nat} {sv : Value} {m : M σ} {dn : Bool} {kt : Option (List UInt8)} {H : Heap} (h : RT W E ps I sb rb sv m dn kt H) : Ready W E ps I sb rb sv m dn H := by
  rcases h with ⟨bb, bs, tok, T, called, rfl, inv, _⟩ | ⟨h1, _, T, called, h2⟩
  · exact .inl ⟨bb, bs, tok, T, called, rfl, inv⟩
  · exact .inr ⟨h1, T, called, h2⟩
theorem Ready.rt {ps : List Int} {sb rb : Nat} {sv : Value} {m : M σ} {dn : Bool} {H : Heap} (h : Ready W E ps I sb rb sv m dn H) : RT W E ps I sb rb sv m dn none H := by
  rcases h with ⟨bb, bs, tok, T, called, rfl, inv⟩ | ⟨h1, T, called, h2⟩
  · exact .inl ⟨bb, bs, tok, T, called, rfl, inv, fun t h => by cases h⟩
  · exact .inr ⟨h1, rfl, T, called, h2⟩
theorem Left'.rt {ps : List Int} {sb rb : Nat} {sv : Value} {e : End σ} {v : Value} {H : Heap} (h : Left' W E ps I sb rb sv e v H) : RT W E ps I sb rb sv e.m e.dn (if e.b = true then e.tok else none) H := by
  obtain ⟨_, bb, bs, tok, T, rfl, inv, ht⟩ := h
  refine .inl ⟨bb, bs, tok, T, true, rfl, inv, fun t h => ?_⟩
  split at h
  · rename_i hb
    have := ht hb
    rw [h] at this
    exact this
  · cases h
/-- What Text tells. -/
theorem rt_text_ct (ps : List Int) (sb rb : Nat) (sv : Value) (m : M σ) (dn : Bool) (kt : Option (List UInt8)) (H : Heap) (h : RT W E ps I sb rb sv m dn kt H) :
    Ct Tryd.prog W 42 #[.pointer (some ⟨sb, 0, none⟩)] H (fun v H' => ∃ t', v = str t' ∧ H' = H ∧ ∀ t, kt = some t → t' = t) := by
  rcases h with ⟨bb, bs, tok, T, called, rfl, inv, hk⟩ | ⟨h1, rfl, T, called, rfl, _⟩
  · have hup : ∀ t, TokAt ((bb, bufO bs) :: T) tok t → TokAt ((rb, m.rd.ho) :: (bb, bufO bs) :: T) tok t := fun t h => by
      obtain ⟨b, off, c, o, h1, h2, h3⟩ := h
      exact ⟨b, off, c, o, h1, List.mem_cons_of_mem _ h2, h3⟩
    cases kt with
    | some t =>
      refine (Text_ct (E := E) ⟨rb, sv, m.mx, tok, .slice (some ⟨bb, 0, none⟩) m.blen m.blen, m.start, m.start + m.data.length, m.err, m.emp, called, dn⟩ sb _ t (hup t (hk t rfl))).mono ?_
      rintro v K ⟨rfl, rfl⟩
      exact ⟨t, rfl, rfl, fun u hu => by cases hu; rfl⟩
    | none =>
      rcases inv.tok with ht | ⟨t, ht⟩
      · refine (Text_nil_ct (E := E) ⟨rb, sv, m.mx, tok, .slice (some ⟨bb, 0, none⟩) m.blen m.blen, m.start, m.start + m.data.length, m.err, m.emp, called, dn⟩ sb _ ht).mono ?_
        rintro v K ⟨rfl, rfl⟩
        exact ⟨[], rfl, rfl, fun u hu => by cases hu⟩
      · refine (Text_ct (E := E) ⟨rb, sv, m.mx, tok, .slice (some ⟨bb, 0, none⟩) m.blen m.blen, m.start, m.start + m.data.length, m.err, m.emp, called, dn⟩ sb _ t (hup t ht)).mono ?_
        rintro v K ⟨rfl, rfl⟩
        exact ⟨t, rfl, rfl, fun u hu => by cases hu⟩
  · refine (Text_nil_ct (E := E) ⟨rb, sv, m.mx, .slice none 0 0, .slice none 0 0, 0, 0, none, 0, called, false⟩ sb _ rfl).mono ?_
    rintro v K ⟨rfl, rfl⟩
    exact ⟨[], rfl, rfl, fun u hu => by cases hu⟩
/-- What Bytes tells. -/
theorem Bytes_ct (s : Sc) (sb : Nat) (H : Heap) :
    Ct Tryd.prog W 43 #[.pointer (some ⟨sb, 0, none⟩)] ((sb, s.ho E) :: H) (fun v H' => v = s.tok ∧ H' = (sb, s.ho E) :: H) := by
  obtain ⟨rb, sv, mx, tok, buf, start, end_, err, emp, called, done⟩ := s
  refine ct_of_cw (vs := [_]) Tryd.func43 rfl rfl fun w1 => ?_
  refine cw_seq ?_; refine cw_region ?_; refine ol_ev (ev_assign rfl) rfl ?_; refine ol_nil ?_; refine cw_seq ?_; refine cw_region ?_; refine ol_ev (ev_move rfl) rfl ?_; refine ol_ev (ev_nilP rfl) rfl ?_; refine ol_ev (ev_fld rfl) rfl ?_; refine ol_ev (ev_load rfl m0 rfl) rfl ?_; refine ol_ev (ev_assign rfl) rfl ?_; refine ol_nil ?_; refine cw_ret ?_
  exact ⟨_, res1 rfl rfl, rfl, rfl⟩
theorem rt_bytes_ct (ps : List Int) (sb rb : Nat) (sv : Value) (m : M σ) (dn : Bool) (kt : Option (List UInt8)) (H : Heap) (h : RT W E ps I sb rb sv m dn kt H) :
    Ct Tryd.prog W 43 #[.pointer (some ⟨sb, 0, none⟩)] H (fun v H' => H' = H ∧ ∃ t', (v = .slice none 0 0 ∧ t' = [] ∨ TokAt H v t') ∧ ∀ t, kt = some t → t' = t) := by
  rcases h with ⟨bb, bs, tok, T, called, rfl, inv, hk⟩ | ⟨h1, rfl, T, called, rfl, _⟩
  · have hup : ∀ t, TokAt ((bb, bufO bs) :: T) tok t → ∀ x y, TokAt (x :: y :: (bb, bufO bs) :: T) tok t := fun t h x y => by
      obtain ⟨b, off, c, o, h1, h2, h3⟩ := h
      exact ⟨b, off, c, o, h1, List.mem_cons_of_mem _ (List.mem_cons_of_mem _ h2), h3⟩
    refine (Bytes_ct (E := E) ⟨rb, sv, m.mx, tok, .slice (some ⟨bb, 0, none⟩) m.blen m.blen, m.start, m.start + m.data.length, m.err, m.emp, called, dn⟩ sb _).mono ?_
    rintro v K ⟨rfl, rfl⟩
    refine ⟨rfl, ?_⟩
    cases kt with
    | some t => exact ⟨t, .inr (hup t (hk t rfl) _ _), fun u hu => by cases hu; rfl⟩
    | none =>
      rcases inv.tok with ht | ⟨t, ht⟩
      · exact ⟨[], .inl ⟨ht, rfl⟩, fun u hu => by cases hu⟩
      · exact ⟨t, .inr (hup t ht _ _), fun u hu => by cases hu⟩
  · refine (Bytes_ct (E := E) ⟨rb, sv, m.mx, .slice none 0 0, .slice none 0 0, 0, 0, none, 0, called, false⟩ sb _).mono ?_
    rintro v K ⟨rfl, rfl⟩
    exact ⟨rfl, [], .inl ⟨rfl, rfl⟩, fun u hu => by cases hu⟩
/-- The scanner's own block. -/
theorem RT.sc {ps : List Int} {sb rb : Nat} {sv : Value} {m : M σ} {dn : Bool} {kt : Option (List UInt8)} {H : Heap} (h : RT W E ps I sb rb sv m dn kt H) : ∃ s : Sc, ∃ T, H = (sb, s.ho E) :: T ∧ s.err = m.err ∧ ∀ k, m.err = some k → k < 9 := by
  rcases h with ⟨bb, bs, tok, T, called, rfl, inv, hk⟩ | ⟨h1, rfl, T, called, rfl, h2, _⟩
  · exact ⟨⟨rb, sv, m.mx, tok, .slice (some ⟨bb, 0, none⟩) m.blen m.blen, m.start, m.start + m.data.length, m.err, m.emp, called, dn⟩, _, rfl, rfl, inv.ok.err⟩
  · refine ⟨⟨rb, sv, m.mx, .slice none 0 0, .slice none 0 0, 0, 0, none, 0, called, false⟩, _, rfl, ?_, ?_⟩
    · rw [h2.2.2.2.1]
    · rw [h2.2.2.2.1]; intro k hk; cases hk
end
/-- What holds of the calls so far, whatever may follow. -/
def Kp (ts : List (List UInt8)) (err : Option Nat) (script : List Int) (told : Nat) (over dead : Bool) (ks : List Int) (cl : List Cl) : Prop :=
  ∀ cs, (dead = true ∨ OkC ts err told over ks cs) → OkC ts err 0 false script (cl ++ cs)
section
variable {ts : List (List UInt8)} {err : Option Nat} {script ks : List Int} {told : Nat} {over dead : Bool} {k : Int} {cl : List Cl}
theorem Kp.text (h : Kp ts err script told over dead (k :: ks) cl) (hk : k = 1 ∨ k = 2) {t : List UInt8} (ht : dead = false → 0 < told → over = false → ts[told - 1]? = some t) : Kp ts err script told over dead ks (cl ++ [⟨false, t, 0⟩]) := by
  intro cs hc
  rw [List.append_assoc]
  refine h _ ?_
  cases dead with
  | true => exact .inl rfl
  | false =>
    rcases hc with hc | hc
    · cases hc
    · refine .inr ⟨_, cs, rfl, ?_⟩
      rw [if_pos hk]
      exact ⟨rfl, rfl, ht rfl, hc⟩
theorem Kp.code (h : Kp ts err script told over dead (k :: ks) cl) (hk : k = 3) {x : Int} (hx : dead = false → x = codeOf (if over = true then err else none)) : Kp ts err script told over dead ks (cl ++ [⟨false, [], x⟩]) := by
  intro cs hc
  rw [List.append_assoc]
  refine h _ ?_
  cases dead with
  | true => exact .inl rfl
  | false =>
    rcases hc with hc | hc
    · cases hc
    · refine .inr ⟨_, cs, rfl, ?_⟩
      rw [if_neg (by omega), if_pos hk]
      exact ⟨rfl, rfl, hx rfl, hc⟩
theorem Kp.scan (h : Kp ts err script told over dead (k :: ks) cl) (h1 : ¬ k = 1) (h2 : ¬ k = 2) (h3 : ¬ k = 3) {b : Bool} {told' : Nat} {over' dead' : Bool} (hn : Nx ts err told over dead b told' over' dead') : Kp ts err script told' over' dead' ks (cl ++ [⟨b, [], 0⟩]) := by
  intro cs hc
  rw [List.append_assoc]
  refine h _ ?_
  cases dead with
  | true => exact .inl rfl
  | false =>
    refine .inr ⟨_, cs, rfl, ?_⟩
    rw [if_neg (by omega), if_neg h3]
    refine ⟨rfl, rfl, ?_⟩
    unfold Nx at hn
    rw [if_neg (by simp)] at hn
    cases over with
    | true =>
      rw [if_pos rfl]
      rw [if_pos rfl] at hn
      intro he
      rw [if_pos he] at hn
      obtain ⟨rfl, rfl, rfl, rfl⟩ := hn
      rcases hc with hc | hc
      · cases hc
      · exact ⟨rfl, hc⟩
    | false =>
      rw [if_neg (by simp)]
      rw [if_neg (by simp)] at hn
      obtain ⟨rfl, hn⟩ := hn
      have hc' := hc.resolve_left (by simp)
      by_cases hlt : told < ts.length
      · rw [if_pos hlt] at hn
        obtain ⟨rfl, rfl, rfl⟩ := hn
        refine ⟨(decide_eq_true hlt).symm, ?_⟩
        rw [if_pos hlt, decide_eq_false (show ¬ ¬ told < ts.length by simpa using hlt)]
        exact hc'
      · rw [if_neg hlt] at hn
        obtain ⟨rfl, rfl, rfl⟩ := hn
        refine ⟨(decide_eq_false hlt).symm, ?_⟩
        rw [if_neg hlt, decide_eq_true (show ¬ told' < ts.length from hlt)]
        exact hc'
end
/-- Where the loop over a script stands. -/
structure CG (σ : Type) where
  i : Nat
  m : M σ
  dn : Bool
  kt : Option (List UInt8)
  told : Nat
  over : Bool
  dead : Bool
  cl : List Cl
  ob : Nat
  r : Nat
  sp : List Value
  T : Heap
theorem tok_eq {σ : Type} {Q : σ → List UInt8 → Oc σ → Prop} {L : Nat} {ts : List (List UInt8)} {err : Option Nat} {m : M σ} {dn : Bool} {kt : Option (List UInt8)} {told : Nat} (h : Ph Q L ts err m dn kt told false false) (h0 : 0 < told) {t' : List UInt8} (ht : ∀ t, kt = some t → t' = t) : ts[told - 1]? = some t' := by
  have h1 := ph_tok h h0
  have h2 := ph_lt h
  rw [List.getElem?_eq_getElem (by omega)] at h1 ⊢
  rw [ht _ h1]
section
variable {W : World} {E : Nat → Addr}
theorem Calls_ct (hE : Errs W E) (hT : Lib.Utf8Tabs 10 11 W) (ps : List Int) (text : List UInt8) (pv : Value) (tog : Bool) (c most : Int) (b : Bs) (hxl : b.x.length ≤ 549755813888) (lv : Value) (ls : List Ly) (hls : LaysAt W [] lv ls) (hll : ls.length ≤ 1099511627776) (hln : ∀ l ∈ ls, l.n ≤ 9223372036854775807)
    (hpv : Pcs W pv ps) (htl : text.length ≤ 549755813888) (hpl : ps.length ≤ 4611686018427387904) (hmost : most ≤ 9223372036854775807) (hlim : ((text.length : Nat) : Int) + 1 < limitOf c most) (ts : List (List UInt8)) (err : Option Nat) (hb : BaseOf sepOf b text ts err) (xs : List (List UInt8)) (ex : Option Nat) (q : laysT ls ts err = (xs, ex)) (hokE : OkE ex)
    (scv : Value) (script : List Int) (hsc : Pcs W scv script) (hsl : script.length ≤ 1099511627776) :
    Ct Tryd.prog W 20 #[.agg #[str text, pv, .bool tog, .bool false], .agg #[.int .i64 c, .int .i64 most], .agg b.cells.toArray, lv, scv] [] (fun v H' => ∃ ob cp sp cl, v = .slice (some ⟨ob, 0, none⟩) cl.length cp ∧ (ob, clO cl sp) ∈ H' ∧ cl.length = script.length ∧ OkC xs ex 0 false script cl) := by
  have cL := layered_ct hE hT b hxl [] lv ls hls hll hln text ts err hb
  rw [q] at cL
  simp only at cL
  obtain ⟨sa, scap, rfl, hscell⟩ := hsc
  refine ct_of_cw (vs := [_, _, _, _, _]) Tryd.func20 rfl rfl fun w1 => ?_
  refine cw_seq ?_
  refine cw_region ?_
  refine ol_box rfl rfl fun b5 => ?_
  refine ol_box rfl rfl fun b6 => ?_
  refine ol_box rfl rfl fun b7 => ?_
  refine ol_ev (ev_assign rfl) rfl ?_; refine ol_nil ?_
  refine cw_cut (fun l' H' => ∃ (σ : Type) (fid : Nat) (cap : List Value) (step : σ → List UInt8 → Bool → Ans σ) (I : σ → Heap → Prop) (Q : σ → List UInt8 → Oc σ → Prop) (s : σ) (sb rb ob : Nat) (G2 : Heap), SubE l' [(4, .slice sa script.length scap), (11, .pointer (some ⟨sb, 0, none⟩)), (12, .slice (some ⟨ob, 0, none⟩) 0 0)] ∧ H' = G2 ++ ((ob, (⟨[], 48, (0, 0)⟩ : HO)) :: [(b7, ⟨(Value.agg b.cells.toArray).cells.toList, 28, (0, 0)⟩), (b6, ⟨[.int .i64 c, .int .i64 most], 26, (0, 0)⟩), (b5, ⟨[str text, pv, .bool tog, .bool false], 24, (0, 0)⟩)]) ∧ SplitOk W E fid cap step I ∧ StepOk step ∧ Fits step Q ∧ Run Q s text xs ex ∧ Ready W E ps I sb rb (.func (.func fid) #[] cap.toArray) (startM s text pv tog false c most) false G2) ?_ ?_
  · refine cw_fork (.fr 0 (.fr 1 (.fr 2 (.fr 3 (.alt (.ef 4 (.alt (.ef 5 (.fr 7 (.ef 6 (.fr 8 .nil)))) (.ef 6 (.ef 5 (.fr 7 (.fr 8 .nil)))))) (.ef 6 (.ef 4 (.ef 5 (.fr 7 (.fr 8 .nil)))))))))) [(b7, ⟨(Value.agg b.cells.toArray).cells.toList, 28, (0, 0)⟩), (b6, ⟨[.int .i64 c, .int .i64 most], 26, (0, 0)⟩), (b5, ⟨[str text, pv, .bool tog, .bool false], 24, (0, 0)⟩)] mixed (by kernel_rfl) (List.Sublist.refl _) (fun _ _ _ h => h) (fun _ _ h => h) ?_
    refine ft_ev rfl (ev_loadS (cs := [str text, pv, .bool tog, .bool false]) rfl rfl m2 rfl) rfl ?_
    refine ft_ev rfl (ev_loadS (cs := [.int .i64 c, .int .i64 most]) rfl rfl m1 rfl) rfl ?_
    refine ft_ev rfl (ev_loadS (cs := b.cells) rfl rfl m0 rfl) rfl ?_
    refine ft_ev rfl (ev_move rfl) rfl ?_
    refine ft_alt ?_ ?_
    · refine ft_x rfl ?_
      refine ol_call2 (G := []) (cap := []) rfl rfl rfl rfl cL (List.Perm.refl _) ?_
      rintro v G' ⟨σ, fid, cap, step, I, Q, s, rfl, hok, hso, hf, hI, hr⟩
      refine ol_nil ⟨sub_right, ?_⟩
      refine ft_alt ?_ ?_
      · refine ft_x rfl ?_
        refine ol_call3 (G := G') (cap := []) rfl rfl rfl rfl rfl (scanner_ct (E := E) hok ps s G' text pv tog false c most hI hpv (by omega) hpl hmost) (List.Perm.refl _) ?_
        rintro v G2 ⟨sb, rb, rfl, hready⟩
        refine ol_nil ⟨sub_right, ?_⟩
        refine ft_ev rfl (ev_assign rfl) rfl ?_
        refine ft_x rfl ?_
        refine ol_slice0 rfl fun ob => ?_
        refine OL.perm List.perm_middle.symm ?_
        refine ol_nil ⟨fun p hp => List.mem_append_right _ (List.mem_cons_of_mem _ hp), ?_⟩
        refine ft_ev rfl (ev_assign rfl) rfl ?_
        refine ft_nil ?_
        exact ⟨σ, fid, cap, step, I, Q, s, sb, rb, ob, G2, ⟨rfl, rfl, rfl, trivial⟩, rfl, hok, hso, hf, hr, hready⟩
      · refine ft_x rfl ?_
        refine ol_slice0 rfl fun ob => ?_
        refine OL.perm List.perm_middle.symm ?_
        refine ol_nil ⟨fun p hp => List.mem_append_right _ (List.mem_cons_of_mem _ hp), ?_⟩
        refine ft_x rfl ?_
        refine ol_call3 (G := G') (cap := []) rfl rfl rfl rfl rfl (scanner_ct (E := E) hok ps s G' text pv tog false c most hI hpv (by omega) hpl hmost) (List.Perm.refl _) ?_
        rintro v G2 ⟨sb, rb, rfl, hready⟩
        refine ol_nil ⟨fun p hp => List.mem_append_right _ (List.mem_cons_of_mem _ hp), ?_⟩
        refine ft_ev rfl (ev_assign rfl) rfl ?_
        refine ft_ev rfl (ev_assign rfl) rfl ?_
        refine ft_nil ?_
        exact ⟨σ, fid, cap, step, I, Q, s, sb, rb, ob, G2, ⟨rfl, rfl, rfl, trivial⟩, rfl, hok, hso, hf, hr, hready⟩
    · refine ft_x rfl ?_
      refine ol_slice0 rfl fun ob => ?_
      refine ol_nil ⟨fun p hp => List.mem_cons_of_mem _ hp, ?_⟩
      refine ft_x rfl ?_
      refine ol_call2 (G := []) (cap := []) rfl rfl rfl rfl cL (List.Perm.refl _) ?_
      rintro v G' ⟨σ, fid, cap, step, I, Q, s, rfl, hok, hso, hf, hI, hr⟩
      refine ol_nil ⟨fun p hp => List.mem_append_right _ (List.mem_cons_of_mem _ hp), ?_⟩
      refine ft_x rfl ?_
      refine ol_call3 (G := G') (cap := []) rfl rfl rfl rfl rfl (scanner_ct (E := E) hok ps s G' text pv tog false c most hI hpv (by omega) hpl hmost) (List.Perm.refl _) ?_
      rintro v G2 ⟨sb, rb, rfl, hready⟩
      refine ol_nil ⟨fun p hp => List.mem_append_right _ (List.mem_cons_of_mem _ hp), ?_⟩
      refine ft_ev rfl (ev_assign rfl) rfl ?_
      refine ft_ev rfl (ev_assign rfl) rfl ?_
      refine ft_nil ?_
      exact ⟨σ, fid, cap, step, I, Q, s, sb, rb, ob, G2, ⟨rfl, rfl, rfl, trivial⟩, rfl, hok, hso, hf, hr, hready⟩
  rintro l' H' ⟨σ, fid, cap, step, I, Q, s, sb, rb, ob, G2, hl', rfl, hok, hso, hf, hr, hready⟩
  refine CW.weak hl' ?_
  clear hl' cL
  obtain ⟨r1', r2', r3'⟩ := start_rest (s := s) (text := text) (pv := pv) (tog := tog) (brk := false) (c := c) (most := most)
  have hL : 0 < (limitOf c most).toNat := by omega
  have hph0 : Ph Q (limitOf c most).toNat xs ex (startM s text pv tog false c most) false none 0 false false :=
    .go (start_mi (by omega)) r3' (by rw [r1', r2', List.drop_zero]; exact run_ql hf hr (by omega)) (Nat.zero_le _) (fun h => absurd h (by omega))
  generalize startM s text pv tog false c most = m0' at hready hph0
  generalize ([(b7, ⟨(Value.agg b.cells.toArray).cells.toList, 28, (0, 0)⟩), (b6, ⟨[.int .i64 c, .int .i64 most], 26, (0, 0)⟩), (b5, ⟨[str text, pv, .bool tog, .bool false], 24, (0, 0)⟩)] : Heap) = Dh
  refine cw_seq ?_; refine cw_seq ?_; refine cw_region ?_; refine ol_ev (ev_move rfl) rfl ?_; refine ol_ev (ev_len_s rfl) rfl ?_; refine ol_ev (ev_move rfl) rfl ?_; refine ol_nil ?_; refine cw_block ?_
  refine cw_loop (σ := CG σ) (fun g => [(11, .pointer (some ⟨sb, 0, none⟩)), (12, .slice (some ⟨g.ob, 0, none⟩) g.cl.length (g.cl.length + g.r)), (22, .slice sa script.length scap), (23, .int .i64 (script.length : Int)), (24, .int .i64 (g.i : Int))]) (fun g => g.T ++ ((g.ob, clO g.cl g.sp) :: Dh))
    (fun g => g.i ≤ script.length ∧ g.cl.length = g.i ∧ g.sp.length = g.r * 3 ∧ RT W E ps I sb rb (.func (.func fid) #[] cap.toArray) g.m g.dn g.kt g.T ∧ Ph Q (limitOf c most).toNat xs ex g.m g.dn g.kt g.told g.over g.dead ∧ Kp xs ex script g.told g.over g.dead (script.drop g.i) g.cl) (fun g => script.length - g.i)
    ⟨0, m0', false, none, 0, false, false, [], ob, 0, [], G2⟩ ⟨Nat.zero_le _, rfl, rfl, hready.rt, hph0, fun cs hc => by rcases hc with hc | hc; cases hc; exact hc⟩ (fun a ha => ha.weak ⟨rfl, rfl, rfl, rfl, rfl, trivial⟩) rfl ?_
  clear hready hph0
  rintro ⟨i, m, dn, kt, told, over, dead, cl, ob, r, sp, T⟩ ⟨hi, hcl, hsp, hrt, hph, hkp⟩
  simp only at hi hcl hsp hrt hph hkp ⊢
  refine cw_seq ?_; refine cw_region ?_; refine ol_ev (ev_lt rfl rfl) rfl ?_; refine ol_nil ?_; refine cw_seq ?_
  refine cw_ifd rfl (fun h0 => ?_) (fun h0 => ?_)
  · have hx : i < script.length := by omega
    obtain ⟨lb, loff, rfl, hcw⟩ := hscell i script[i] (List.getElem?_eq_getElem hx)
    rw [List.drop_eq_getElem_cons hx] at hkp
    generalize script[i] = k at hcw hkp
    refine cw_skip ?_; refine cw_seq ?_; refine cw_block ?_; refine cw_seq ?_; refine cw_region ?_
    refine ol_ev (ev_idx1 rfl rfl (by omega) (by omega)) rfl ?_
    refine ol_ev (ev_loadW rfl hcw) rfl ?_
    refine ol_ev (ev_assign rfl) rfl ?_; refine ol_nil ?_; refine cw_seq ?_; refine cw_region ?_; refine ol_ev (ev_move rfl) rfl ?_; refine ol_nil ?_; refine cw_block ?_; refine cw_seq ?_; refine cw_region ?_; refine ol_ev (ev_eq rfl rfl) rfl ?_; refine ol_ev (ev_assign rfl) rfl ?_; refine ol_nil ?_
    refine cw_ifd rfl (fun h1 => ?_) (fun h1 => ?_)
    · refine cw_region ?_; refine ol_ev (ev_move rfl) rfl ?_; refine ol_ev (ev_move rfl) rfl ?_
      refine ol_call1 (G := T) (cap := []) rfl rfl rfl (rt_text_ct ps sb rb _ m dn kt T hrt) (List.Perm.refl _) ?_
      rintro v G' ⟨t', rfl, rfl, ht⟩
      refine ol_ev (ev_build1 rfl rfl) rfl ?_
      refine ol_cl1 (a := ⟨false, t', 0⟩) rfl rfl fun b1 => ?_
      refine OL.perm (K := (b1, (⟨(⟨false, t', 0⟩ : Cl).cells, 48, (0, 0)⟩ : HO)) :: (ob, clO cl sp) :: (G' ++ Dh)) (List.perm_middle.cons _) ?_
      refine ol_append_c (xs := (cl.map Cl.cells).flatten) (sp := sp) (ys := (⟨false, t', 0⟩ : Cl).cells) (r := r) rfl rfl (fun _ _ => r1) m0 (cl_len cl) hsp rfl rfl (by intro u hu; simp only [Cl.cells, List.mem_cons, List.not_mem_nil, or_false] at hu; rcases hu with rfl | rfl | rfl <;> rfl) rfl (by omega) (by omega) rfl ?_
      intro b' r' sp' hsp'
      refine OL.less (List.sublist_cons_self _ _) ?_
      refine OL.perm (List.perm_middle (l₁ := G') (l₂ := Dh)).symm ?_
      refine ol_ev (ev_assign rfl) rfl ?_; refine ol_nil ?_; refine cw_region ?_; (refine ol_ev (ev_add rfl rfl ?_) rfl ?_; (constructor <;> omega)); refine ol_ev (ev_move rfl) rfl ?_; refine ol_nil ?_
      refine ⟨⟨i + 1, m, dn, kt, told, over, dead, cl ++ [⟨false, t', 0⟩], b', r', sp', G'⟩, ⟨hx, by simp [hcl], hsp', hrt, hph, hkp.text (.inl h1) (fun hd h0 ho => by subst hd ho; exact tok_eq hph h0 ht)⟩, ⟨rfl, ?_, rfl, rfl, rfl, trivial⟩, ?_, by show script.length - (i + 1) < script.length - i; omega⟩
      · show some (Value.slice _ _ _) = some (Value.slice _ _ _)
        simp
      · show _ ++ _ :: _ = _ ++ _ :: _
        unfold clO
        rw [cl_snoc]
    refine cw_seq ?_; refine cw_region ?_; refine ol_ev (ev_eq rfl rfl) rfl ?_; refine ol_ev (ev_assign rfl) rfl ?_; refine ol_nil ?_
    refine cw_ifd rfl (fun h2 => ?_) (fun h2 => ?_)
    · refine cw_region ?_; refine ol_ev (ev_move rfl) rfl ?_; refine ol_ev (ev_move rfl) rfl ?_
      refine ol_call1 (G := T) (cap := []) rfl rfl rfl (rt_bytes_ct ps sb rb _ m dn kt T hrt) (List.Perm.refl _) ?_
      rintro v G' ⟨rfl, t', hv, ht⟩
      have hev : ∀ {C : Cx} {l : Env} {x : Operand} {ty : TypeId} {R : Heap}, ev l x = some v → Ev Tryd.prog C (G' ++ R) l (.convert 78 9 x) ty (str t') := by
        intro C l x ty R hx
        rcases hv with ⟨rfl, rfl⟩ | ⟨bk, off, cp, o, rfl, hmem, hcells, _⟩
        · exact ev_str_nil hx
        · exact ev_str_bytes hx (List.mem_append_left _ hmem) hcells
      refine ol_ev (hev rfl) rfl ?_
      refine ol_ev (ev_build1 rfl rfl) rfl ?_
      refine ol_cl1 (a := ⟨false, t', 0⟩) rfl rfl fun b1 => ?_
      refine OL.perm (K := (b1, (⟨(⟨false, t', 0⟩ : Cl).cells, 48, (0, 0)⟩ : HO)) :: (ob, clO cl sp) :: (G' ++ Dh)) (List.perm_middle.cons _) ?_
      refine ol_append_c (xs := (cl.map Cl.cells).flatten) (sp := sp) (ys := (⟨false, t', 0⟩ : Cl).cells) (r := r) rfl rfl (fun _ _ => r1) m0 (cl_len cl) hsp rfl rfl (by intro u hu; simp only [Cl.cells, List.mem_cons, List.not_mem_nil, or_false] at hu; rcases hu with rfl | rfl | rfl <;> rfl) rfl (by omega) (by omega) rfl ?_
      intro b' r' sp' hsp'
      refine OL.less (List.sublist_cons_self _ _) ?_
      refine OL.perm (List.perm_middle (l₁ := G') (l₂ := Dh)).symm ?_
      refine ol_ev (ev_assign rfl) rfl ?_; refine ol_nil ?_; refine cw_region ?_; (refine ol_ev (ev_add rfl rfl ?_) rfl ?_; (constructor <;> omega)); refine ol_ev (ev_move rfl) rfl ?_; refine ol_nil ?_
      refine ⟨⟨i + 1, m, dn, kt, told, over, dead, cl ++ [⟨false, t', 0⟩], b', r', sp', G'⟩, ⟨hx, by simp [hcl], hsp', hrt, hph, hkp.text (.inr h2) (fun hd h0 ho => by subst hd ho; exact tok_eq hph h0 ht)⟩, ⟨rfl, ?_, rfl, rfl, rfl, trivial⟩, ?_, by show script.length - (i + 1) < script.length - i; omega⟩
      · show some (Value.slice _ _ _) = some (Value.slice _ _ _)
        simp
      · show _ ++ _ :: _ = _ ++ _ :: _
        unfold clO
        rw [cl_snoc]
    refine cw_seq ?_; refine cw_region ?_; refine ol_ev (ev_eq rfl rfl) rfl ?_; refine ol_ev (ev_assign rfl) rfl ?_; refine ol_nil ?_
    refine cw_ifd rfl (fun h3 => ?_) (fun h3 => ?_)
    · obtain ⟨sc, T', rfl, hse, hlt⟩ := hrt.sc
      refine cw_region ?_; refine ol_ev (ev_move rfl) rfl ?_; refine ol_ev (ev_move rfl) rfl ?_
      refine ol_call1 (G := [(sb, sc.ho E)]) (R := T' ++ ((ob, clO cl sp) :: Dh)) (cap := []) rfl rfl rfl (Err_ct hE sc sb (by rw [hse]; exact hlt)) (List.Perm.refl _) ?_
      rintro v G' ⟨rfl, rfl⟩
      rw [hse]
      refine ol_call1 (G := []) (cap := []) rfl rfl rfl (code_ct hE (if m.err = some 0 then none else m.err) (fun k hk => ?_)) (List.Perm.refl _) ?_
      · split at hk
        · cases hk
        · exact hlt k hk
      rintro v G' ⟨rfl, rfl⟩
      refine OL.perm (K := ((sb, sc.ho E) :: T') ++ ((ob, clO cl sp) :: Dh)) (List.Perm.refl _) ?_
      refine ol_ev (ev_build1 rfl rfl) rfl ?_
      refine ol_cl1 (a := ⟨false, [], codeOf (if m.err = some 0 then none else m.err)⟩) rfl rfl fun b1 => ?_
      refine OL.perm (K := (b1, (⟨(⟨false, [], codeOf (if m.err = some 0 then none else m.err)⟩ : Cl).cells, 48, (0, 0)⟩ : HO)) :: (ob, clO cl sp) :: (((sb, sc.ho E) :: T') ++ Dh)) (List.perm_middle.cons _) ?_
      refine ol_append_c (xs := (cl.map Cl.cells).flatten) (sp := sp) (ys := (⟨false, [], codeOf (if m.err = some 0 then none else m.err)⟩ : Cl).cells) (r := r) rfl rfl (fun _ _ => r1) m0 (cl_len cl) hsp rfl rfl (by intro u hu; simp only [Cl.cells, List.mem_cons, List.not_mem_nil, or_false] at hu; rcases hu with rfl | rfl | rfl <;> rfl) rfl (by omega) (by omega) rfl ?_
      intro b' r' sp' hsp'
      refine OL.less (List.sublist_cons_self _ _) ?_
      refine OL.perm (List.perm_middle (l₁ := ((sb, sc.ho E) :: T')) (l₂ := Dh)).symm ?_
      refine ol_ev (ev_assign rfl) rfl ?_; refine ol_nil ?_; refine cw_region ?_; (refine ol_ev (ev_add rfl rfl ?_) rfl ?_; (constructor <;> omega)); refine ol_ev (ev_move rfl) rfl ?_; refine ol_nil ?_
      refine ⟨⟨i + 1, m, dn, kt, told, over, dead, cl ++ [⟨false, [], codeOf (if m.err = some 0 then none else m.err)⟩], b', r', sp', ((sb, sc.ho E) :: T')⟩, ⟨hx, by simp [hcl], hsp', hrt, hph, hkp.code h3 (fun hd => by subst hd; rw [ph_err hokE hph])⟩, ⟨rfl, ?_, rfl, rfl, rfl, trivial⟩, ?_, by show script.length - (i + 1) < script.length - i; omega⟩
      · show some (Value.slice _ _ _) = some (Value.slice _ _ _)
        simp
      · show _ ++ _ :: _ = _ ++ _ :: _
        unfold clO
        rw [cl_snoc]
    cases dn with
    | false =>
      obtain ⟨kk, e, told', over', dead', hscn, hph', hnx⟩ := ph_scan hso hf hL ps hph
      refine cw_region ?_; refine ol_ev (ev_move rfl) rfl ?_; refine ol_ev (ev_move rfl) rfl ?_
      refine ol_call1 (G := T) (cap := []) rfl rfl rfl (ready_scan_ct hE hok ps kk m e sb rb T hscn hrt.ready) (List.Perm.refl _) ?_
      rintro v G' hleft
      have hrt' := hleft.rt
      obtain ⟨rfl, _⟩ := hleft
      refine ol_ev (ev_build1 rfl rfl) rfl ?_
      refine ol_cl1 (a := ⟨e.b, [], 0⟩) rfl rfl fun b1 => ?_
      refine OL.perm (K := (b1, (⟨(⟨e.b, [], 0⟩ : Cl).cells, 48, (0, 0)⟩ : HO)) :: (ob, clO cl sp) :: (G' ++ Dh)) (List.perm_middle.cons _) ?_
      refine ol_append_c (xs := (cl.map Cl.cells).flatten) (sp := sp) (ys := (⟨e.b, [], 0⟩ : Cl).cells) (r := r) rfl rfl (fun _ _ => r1) m0 (cl_len cl) hsp rfl rfl (by intro u hu; simp only [Cl.cells, List.mem_cons, List.not_mem_nil, or_false] at hu; rcases hu with rfl | rfl | rfl <;> rfl) rfl (by omega) (by omega) rfl ?_
      intro b' r' sp' hsp'
      refine OL.less (List.sublist_cons_self _ _) ?_
      refine OL.perm (List.perm_middle (l₁ := G') (l₂ := Dh)).symm ?_
      refine ol_ev (ev_assign rfl) rfl ?_; refine ol_nil ?_; refine cw_region ?_; (refine ol_ev (ev_add rfl rfl ?_) rfl ?_; (constructor <;> omega)); refine ol_ev (ev_move rfl) rfl ?_; refine ol_nil ?_
      refine ⟨⟨i + 1, e.m, e.dn, if e.b = true then e.tok else none, told', over', dead', cl ++ [⟨e.b, [], 0⟩], b', r', sp', G'⟩, ⟨hx, by simp [hcl], hsp', hrt', hph', hkp.scan h1 h2 h3 hnx⟩, ⟨rfl, ?_, rfl, rfl, rfl, trivial⟩, ?_, by show script.length - (i + 1) < script.length - i; omega⟩
      · show some (Value.slice _ _ _) = some (Value.slice _ _ _)
        simp
      · show _ ++ _ :: _ = _ ++ _ :: _
        unfold clO
        rw [cl_snoc]
    | true =>
      obtain ⟨told', over', dead', hph', hnx⟩ := ph_done hph
      refine cw_region ?_; refine ol_ev (ev_move rfl) rfl ?_; refine ol_ev (ev_move rfl) rfl ?_
      refine ol_call1 (G := T) (cap := []) rfl rfl rfl (ready_done_ct ps m sb rb _ T hrt.ready) (List.Perm.refl _) ?_
      rintro v G' ⟨rfl, rfl⟩
      refine ol_ev (ev_build1 rfl rfl) rfl ?_
      refine ol_cl1 (a := ⟨false, [], 0⟩) rfl rfl fun b1 => ?_
      refine OL.perm (K := (b1, (⟨(⟨false, [], 0⟩ : Cl).cells, 48, (0, 0)⟩ : HO)) :: (ob, clO cl sp) :: (G' ++ Dh)) (List.perm_middle.cons _) ?_
      refine ol_append_c (xs := (cl.map Cl.cells).flatten) (sp := sp) (ys := (⟨false, [], 0⟩ : Cl).cells) (r := r) rfl rfl (fun _ _ => r1) m0 (cl_len cl) hsp rfl rfl (by intro u hu; simp only [Cl.cells, List.mem_cons, List.not_mem_nil, or_false] at hu; rcases hu with rfl | rfl | rfl <;> rfl) rfl (by omega) (by omega) rfl ?_
      intro b' r' sp' hsp'
      refine OL.less (List.sublist_cons_self _ _) ?_
      refine OL.perm (List.perm_middle (l₁ := G') (l₂ := Dh)).symm ?_
      refine ol_ev (ev_assign rfl) rfl ?_; refine ol_nil ?_; refine cw_region ?_; (refine ol_ev (ev_add rfl rfl ?_) rfl ?_; (constructor <;> omega)); refine ol_ev (ev_move rfl) rfl ?_; refine ol_nil ?_
      refine ⟨⟨i + 1, m, true, none, told', over', dead', cl ++ [⟨false, [], 0⟩], b', r', sp', G'⟩, ⟨hx, by simp [hcl], hsp', hrt.ready.rt, hph', hkp.scan h1 h2 h3 hnx⟩, ⟨rfl, ?_, rfl, rfl, rfl, trivial⟩, ?_, by show script.length - (i + 1) < script.length - i; omega⟩
      · show some (Value.slice _ _ _) = some (Value.slice _ _ _)
        simp
      · show _ ++ _ :: _ = _ ++ _ :: _
        unfold clO
        rw [cl_snoc]
  · rw [List.drop_of_length_le (by omega)] at hkp
    have hfin := hkp [] (.inr rfl)
    rw [List.append_nil] at hfin
    refine cw_exit ?_; refine cw_seq ?_; refine cw_region ?_; refine ol_ev (ev_move rfl) rfl ?_; refine ol_ev (ev_assign rfl) rfl ?_; refine ol_nil ?_; refine cw_ret ?_
    exact ⟨_, res1 rfl rfl, ob, _, sp, cl, rfl, List.mem_append_right _ List.mem_cons_self, by omega, hfin⟩
end
end Go.HE
