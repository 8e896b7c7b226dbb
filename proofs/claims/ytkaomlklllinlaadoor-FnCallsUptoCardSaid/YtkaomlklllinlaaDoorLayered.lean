/- Split functions within layers, by contracts. Conditions: the errors and the tables of UTF-8 are as start-up lays them. -/
import Derived.Test.YtkaomlklllinlaaDoorScanW
import Derived.Test.YtkaomlklllinlaaDoorBaseP
import Derived.Test.YtkaomlklllinlaaDoorParts
import Derived.Test.YtkaomlklllinlaaDoorFieldsS
import Derived.Test.YtkaomlklllinlaaDoorFramesS
set_option maxRecDepth 100000
set_option maxHeartbeats 4000000
namespace Go.HE
open Go.RowKit Go.Proofs Go.Shelf

instance : TAgg Tryd.prog 28 5 := ⟨by kernel_rfl, by kernel_rfl⟩
instance : TAgg Tryd.prog 34 3 := ⟨by kernel_rfl, by kernel_rfl⟩

/-- A function value that is a split function of which the tokens of a text are ts, and the error err. -/
def Sp (W : World) (E : Nat → Addr) (text : List UInt8) (fv : Value) (T : Heap) (ts : List (List UInt8)) (err : Option Nat) : Prop :=
  ∃ (σ : Type) (fid : Nat) (cap : List Value) (step : σ → List UInt8 → Bool → Ans σ) (I : σ → Heap → Prop) (Q : σ → List UInt8 → Oc σ → Prop) (s : σ),
    fv = .func (.func fid) #[] cap.toArray ∧ SplitOk W E fid cap step I ∧ StepOk step ∧ Fits step Q ∧ I s T ∧ Run Q s text ts err
/-- A split function that has errors, final tokens and wrong advances only at the end. -/
def Late {σ : Type} (step : σ → List UInt8 → Bool → Ans σ) : Prop := ∀ s d, (step s d false).err = none ∧ ((step s d false).tok = none → 0 ≤ (step s d false).adv ∧ (step s d false).adv ≤ d.length)
theorem lstep_late : Late lstep := by
  intro s d
  unfold lstep
  rw [if_neg (by simp)]
  split
  · exact ⟨rfl, fun h => by cases h⟩
  · rw [if_neg (by simp)]; exact ⟨rfl, fun _ => ⟨by simp, by simp⟩⟩
theorem wstep_late : Late wstep := by
  intro s d
  unfold wstep
  split
  · exact ⟨rfl, fun h => by cases h⟩
  · rw [if_neg (by simp)]
    have := skip_le _ d rfl
    exact ⟨rfl, fun _ => ⟨by simp only; omega, by simp only; omega⟩⟩
theorem pstep_late {x : List UInt8} : Late (pstep x) := by
  intro s d
  unfold pstep
  split
  · exact ⟨rfl, fun h => by cases h⟩
  · rw [if_neg (by simp)]; exact ⟨rfl, fun _ => ⟨by simp, by simp⟩⟩
theorem estep_late {dl es : UInt8} : Late (estep dl es) := by
  intro s d
  unfold estep
  split
  · exact ⟨rfl, fun h => by cases h⟩
  · rw [if_neg (by simp)]; exact ⟨rfl, fun _ => ⟨by simp, by simp⟩⟩
  · rw [if_neg (by simp)]; exact ⟨rfl, fun _ => ⟨by simp, by simp⟩⟩
theorem fstep_late {w : Nat} : Late (fstep w) := by
  intro s d
  unfold fstep
  split
  · exact ⟨rfl, fun h => by cases h⟩
  · rw [if_neg (by simp)]; exact ⟨rfl, fun _ => ⟨by simp, by simp⟩⟩
theorem bstep_late : Late bstep := by
  intro s d
  unfold bstep
  split
  · exact ⟨rfl, fun _ => ⟨by simp, by simp⟩⟩
  · exact ⟨rfl, fun h => by cases h⟩
/-- A function value as in Sp, with a split function that has errors only at the end. -/
def SpL (W : World) (E : Nat → Addr) (text : List UInt8) (fv : Value) (T : Heap) (ts : List (List UInt8)) (err : Option Nat) : Prop :=
  ∃ (σ : Type) (fid : Nat) (cap : List Value) (step : σ → List UInt8 → Bool → Ans σ) (I : σ → Heap → Prop) (Q : σ → List UInt8 → Oc σ → Prop) (s : σ),
    fv = .func (.func fid) #[] cap.toArray ∧ SplitOk W E fid cap step I ∧ StepOk step ∧ Fits step Q ∧ I s T ∧ Run Q s text ts err ∧ Late step
theorem SpL.sp {W : World} {E : Nat → Addr} {text : List UInt8} {fv : Value} {T : Heap} {ts : List (List UInt8)} {err : Option Nat} (h : SpL W E text fv T ts err) : Sp W E text fv T ts err := by
  obtain ⟨σ, fid, cap, step, I, Q, s, h1, h2, h3, h4, h5, h6, _⟩ := h
  exact ⟨σ, fid, cap, step, I, Q, s, h1, h2, h3, h4, h5, h6⟩
def Bs.cells (b : Bs) : List Value := [.int .i64 b.kind, .int .i64 b.n, str b.x, bv b.dl, bv b.es]

section
variable {W : World} {E : Nat → Addr}
theorem Sp.more {text : List UInt8} {fv : Value} {T : Heap} {ts : List (List UInt8)} {err : Option Nat} (h : Sp W E text fv T ts err) (x : Nat × HO) : Sp W E text fv (x :: T) ts err := by
  obtain ⟨σ, fid, cap, step, I, Q, s, h1, h2, h3, h4, h5, h6⟩ := h
  exact ⟨σ, fid, cap, step, I, Q, s, h1, h2, h3, h4, h2.more _ _ _ h5, h6⟩
theorem Sp.app {text : List UInt8} {fv : Value} {T : Heap} {ts : List (List UInt8)} {err : Option Nat} (h : Sp W E text fv T ts err) (R : Heap) : Sp W E text fv (T ++ R) ts err := by
  induction R with
  | nil => rw [List.append_nil]; exact h
  | cons x R ih =>
    obtain ⟨σ, fid, cap, step, I, Q, s, h1, h2, h3, h4, h5, h6⟩ := ih.more x
    exact ⟨σ, fid, cap, step, I, Q, s, h1, h2, h3, h4, h2.perm _ _ _ List.perm_middle.symm h5, h6⟩

theorem base_ct (hE : Errs W E) (hT : Lib.Utf8Tabs 10 11 W) (b : Bs) (hxl : b.x.length ≤ 549755813888) :
    Ct Tryd.prog W 52 #[.agg b.cells.toArray] [] (fun v H' => ∀ text ts err, BaseOf sepOf b text ts err → SpL W E text v H' ts err) := by
  obtain ⟨kind, n, x, dl, es⟩ := b
  refine ct_of_cw (vs := [_]) Tryd.func52 rfl rfl fun w1 => ?_
  refine cw_seq ?_; refine cw_region ?_
  refine ol_box rfl rfl fun b1 => ?_
  show OL _ _ _ _ _ [(b1, ⟨[.int .i64 kind, .int .i64 n, str x, bv dl, bv es], 28, (0, 0)⟩)] _
  refine ol_ev (ev_assign rfl) rfl ?_; refine ol_nil ?_; refine cw_seq ?_; refine cw_seq ?_; refine cw_region ?_; refine ol_ev (ev_fld rfl) rfl ?_; refine ol_ev (ev_load rfl m0 rfl) rfl ?_; refine ol_nil ?_; refine cw_block ?_; refine cw_seq ?_; refine cw_region ?_; refine ol_ev (ev_eq rfl rfl) rfl ?_; refine ol_ev (ev_assign rfl) rfl ?_; refine ol_nil ?_
  refine cw_ifd rfl (fun h2 => ?_) (fun h2 => ?_)
  · refine cw_seq ?_; refine cw_region ?_; refine ol_ev (ev_assign rfl) rfl ?_; refine ol_nil ?_; refine cw_ret ?_
    refine ⟨_, res1 rfl rfl, fun text ts err hb => ?_⟩
    unfold BaseOf at hb
    rw [if_pos h2] at hb
    exact ⟨Unit, _, [], lstep, _, lq, (), rfl, lines_ok, lstep_ok, lfits, trivial, hb.1, lstep_late⟩
  refine cw_seq ?_; refine cw_region ?_; refine ol_ev (ev_eq rfl rfl) rfl ?_; refine ol_ev (ev_assign rfl) rfl ?_; refine ol_nil ?_
  refine cw_ifd rfl (fun h3 => ?_) (fun h3 => ?_)
  · refine cw_seq ?_; refine cw_region ?_; refine ol_ev (ev_assign rfl) rfl ?_; refine ol_nil ?_; refine cw_ret ?_
    refine ⟨_, res1 rfl rfl, fun text ts err hb => ?_⟩
    unfold BaseOf at hb
    rw [if_neg h2, if_pos h3] at hb
    exact ⟨Unit, _, [], wstep, _, wq, (), rfl, words_ok hT, wstep_ok, wfits, trivial, hb.1, wstep_late⟩
  refine cw_seq ?_; refine cw_region ?_; refine ol_ev (ev_eq rfl rfl) rfl ?_; refine ol_ev (ev_assign rfl) rfl ?_; refine ol_nil ?_
  refine cw_ifd rfl (fun h4 => ?_) (fun h4 => ?_)
  · refine cw_seq ?_; refine cw_region ?_; refine ol_ev (ev_fld rfl) rfl ?_; refine ol_ev (ev_load rfl m0 rfl) rfl ?_
    refine ol_call1 (G := []) (cap := []) rfl rfl rfl (partsF_ct x) (List.Perm.refl _) ?_
    rintro v G' ⟨xb, rfl, rfl⟩
    refine ol_ev (ev_assign rfl) rfl ?_; refine ol_nil ?_; refine cw_ret ?_
    refine ⟨_, res1 rfl rfl, fun text ts err hb => ?_⟩
    unfold BaseOf at hb
    rw [if_neg h2, if_neg h3, if_pos h4] at hb
    obtain ⟨hb, rfl⟩ := hb
    have hl := sepOf_len x
    exact ⟨Unit, _, _, pstep (sepOf x), _, pq (sepOf x), (), rfl, parts_ok hE xb (sepOf x) (sepOf_ne x) (by simp only at hxl; omega), pstep_ok (sepOf_ne x), pfits (sepOf_ne x), m0, prun0 hb, pstep_late⟩
  refine cw_seq ?_; refine cw_region ?_; refine ol_ev (ev_eq rfl rfl) rfl ?_; refine ol_ev (ev_assign rfl) rfl ?_; refine ol_nil ?_
  refine cw_ifd rfl (fun h5 => ?_) (fun h5 => ?_)
  · refine cw_seq ?_; refine cw_region ?_; refine ol_ev (ev_fld rfl) rfl ?_; refine ol_ev (ev_load rfl m0 rfl) rfl ?_; refine ol_ev (ev_fld rfl) rfl ?_; refine ol_ev (ev_load rfl m0 rfl) rfl ?_
    refine ol_call2 (G := []) (cap := []) rfl rfl rfl rfl (fieldsF_ct dl es) (List.Perm.refl _) ?_
    rintro v G' ⟨eb, db, rfl, rfl⟩
    refine ol_ev (ev_assign rfl) rfl ?_; refine ol_nil ?_; refine cw_ret ?_
    refine ⟨_, res1 rfl rfl, fun text ts err hb => ?_⟩
    unfold BaseOf at hb
    rw [if_neg h2, if_neg h3, if_neg h4, if_pos h5] at hb
    exact ⟨Unit, _, _, estep dl es, _, eq dl es, (), rfl, fields_ok hE eb db dl es, estep_ok, efits, ⟨m0, m1⟩, erun0 hb, estep_late⟩
  refine cw_seq ?_; refine cw_region ?_; refine ol_ev (ev_eq rfl rfl) rfl ?_; refine ol_ev (ev_assign rfl) rfl ?_; refine ol_nil ?_
  refine cw_ifd rfl (fun h6 => ?_) (fun h6 => ?_)
  · refine cw_seq ?_; refine cw_region ?_; refine ol_ev (ev_fld rfl) rfl ?_; refine ol_ev (ev_load rfl m0 rfl) rfl ?_
    refine ol_call1 (G := []) (cap := []) rfl rfl rfl (framesF_ct n (min (max n 1) 3).toNat (by omega)) (List.Perm.refl _) ?_
    rintro v G' ⟨wb, rfl, rfl⟩
    refine ol_ev (ev_assign rfl) rfl ?_; refine ol_nil ?_; refine cw_ret ?_
    refine ⟨_, res1 rfl rfl, fun text ts err hb => ?_⟩
    unfold BaseOf at hb
    rw [if_neg h2, if_neg h3, if_neg h4, if_neg h5, if_pos h6] at hb
    obtain ⟨m, hb⟩ := hb
    exact ⟨Unit, _, _, fstep (min (max n 1) 3).toNat, _, fq (min (max n 1) 3).toNat, (), rfl, frames_ok hE wb _ (by omega) (by omega), fstep_ok (by omega), ffits (by omega), m0, frun0 (by omega) hb, fstep_late⟩
  · refine cw_skip ?_; refine cw_seq ?_; refine cw_region ?_; refine ol_ev (ev_assign rfl) rfl ?_; refine ol_nil ?_; refine cw_ret ?_
    refine ⟨_, res1 rfl rfl, fun text ts err hb => ?_⟩
    unfold BaseOf at hb
    rw [if_neg h2, if_neg h3, if_neg h4, if_neg h5, if_neg h6] at hb
    obtain ⟨rfl, rfl⟩ := hb
    exact ⟨Unit, _, [], bstep, _, bq, (), rfl, bytes_ok, bstep_ok, bfits, trivial, brun text, bstep_late⟩

/-- A layer. -/
structure Ly where
  kind : Int
  n : Int
  x : List UInt8
def Ly.cells (l : Ly) : List Value := [.int .i64 l.kind, .int .i64 l.n, str l.x]
/-- What a layer makes of tokens and an error. -/
def Ly.toks (l : Ly) (ts : List (List UInt8)) : List (List UInt8) :=
  if l.kind = 1 then ts.take l.n.toNat
  else if l.kind = 2 ∨ l.kind = 3 then untilT l.x ts
  else if l.kind = 4 then ts.filter (fun t => decide (t ≠ l.x))
  else if l.kind = 5 then ts.map (fun t => t.take l.n.toNat)
  else if l.kind = 6 then ts.map List.reverse
  else if l.kind = 7 ∨ l.kind = 8 then ts.take (max l.n 0).toNat
  else ts
def Ly.err (l : Ly) (ts : List (List UInt8)) (err : Option Nat) : Option Nat :=
  if l.kind = 1 then takeE l.n ts err
  else if l.kind = 2 ∨ l.kind = 3 then untilE l.x ts (decide (l.kind = 3)) err
  else if l.kind = 7 ∨ l.kind = 8 then strayE (decide (l.kind = 7)) (max l.n 0).toNat ts err
  else err
def laysT : List Ly → List (List UInt8) → Option Nat → List (List UInt8) × Option Nat
  | [], ts, err => (ts, err)
  | l :: ls, ts, err => laysT ls (l.toks ts) (l.err ts err)

/-- Layers in memory: in blocks of one's own, or in old memory. -/
def LaysAt (W : World) (H : Heap) (v : Value) (ls : List Ly) : Prop :=
  ∃ a cap, v = .slice a ls.length cap ∧ ∀ (i : Nat) l, ls[i]? = some l → ∃ b off, a = some ⟨b, off, none⟩ ∧ ((∃ o, (b, o) ∈ H ∧ (o.cells.drop (off + i * 3)).take 3 = l.cells) ∨ ∀ (j : Nat) u, l.cells[j]? = some u → W.cell? ⟨b, off + i * 3 + j, none⟩ = some u)
theorem LaysAt.sub {H K : Heap} {v : Value} {ls : List Ly} (h : LaysAt W H v ls) (hs : ∀ p ∈ H, p ∈ K) : LaysAt W K v ls := by
  obtain ⟨a, cap, h1, h2⟩ := h
  refine ⟨a, cap, h1, fun i l hi => ?_⟩
  obtain ⟨b, off, h3, h4⟩ := h2 i l hi
  refine ⟨b, off, h3, ?_⟩
  rcases h4 with ⟨o, h5, h6⟩ | h4
  · exact .inl ⟨o, hs _ h5, h6⟩
  · exact .inr h4

theorem ev_loadSW {P : Program} {C : Cx} {l : Env} {H : Heap} {t ty : TypeId} {x : Operand} {b off n : Nat} {cs : List Value} [hT : TAgg P t n] (hn : n = cs.length) (hx : ev l x = some (.pointer (some ⟨b, off, none⟩)))
    (hc : (∃ o, (b, o) ∈ H ∧ (o.cells.drop off).take cs.length = cs) ∨ ∀ (j : Nat) u, cs[j]? = some u → C.W.cell? ⟨b, off + j, none⟩ = some u) : Ev P C H l (.load t x) ty (.agg cs.toArray) := by
  rcases hc with ⟨o, h1, h2⟩ | hc
  · exact ev_loadS hn hx h1 h2
  · subst hn
    refine ⟨fun a w d pos af g hs hw => ?_⟩
    obtain ⟨dd, hu, hd⟩ := Option.map_eq_some_iff.1 hT.u
    have := run_loadAt_mid (P := P) w b off t cs dd (fun j v hj => St.cellW hw (hc j v hj)) hu hd hT.s
    simp [execOp, hs.eval hx, this]

theorem rev3 {a b c : Nat × HO} {R : Heap} : (a :: b :: c :: R).Perm (c :: b :: a :: R) :=
  ((List.Perm.swap c b R).cons a).trans ((List.Perm.swap c a _).trans ((List.Perm.swap b a R).cons c))

theorem dropXF_ct {fid : Nat} {cap : List Value} (x : List UInt8) : Ct Tryd.prog W 55 #[.func (.func fid) #[] cap.toArray, str x] [] (fun v H' => ∃ ib xb, v = .func (.func 75) #[] [.pointer (some ⟨ib, 0, none⟩), .pointer (some ⟨xb, 0, none⟩)].toArray ∧ H' = [(xb, ⟨[str x], 9, (0, 0)⟩), (ib, innO fid cap)]) := by
  refine ct_of_cw (vs := [_, _]) Tryd.func55 rfl rfl fun w1 => ?_
  refine cw_seq ?_; refine cw_region ?_
  refine ol_box rfl rfl fun ib => ?_
  refine ol_box rfl rfl fun xb => ?_
  refine ol_ev (ev_assign rfl) rfl ?_; refine ol_nil ?_; refine cw_seq ?_; refine cw_region ?_; refine ol_ev (ev_mkfunc2 rfl rfl) rfl ?_; refine ol_ev (ev_assign rfl) rfl ?_; refine ol_nil ?_; refine cw_ret ?_
  exact ⟨_, res1 rfl rfl, ib, xb, rfl, rfl⟩

theorem layered_ct (hE : Errs W E) (hT : Lib.Utf8Tabs 10 11 W) (b : Bs) (hxl : b.x.length ≤ 549755813888) (H : Heap) (lv : Value) (ls : List Ly) (hls : LaysAt W H lv ls) (hll : ls.length ≤ 1099511627776) (hln : ∀ l ∈ ls, l.n ≤ 9223372036854775807)
    (text : List UInt8) (ts : List (List UInt8)) (err : Option Nat) (hb : BaseOf sepOf b text ts err) :
    Ct Tryd.prog W 28 #[.agg b.cells.toArray, lv] H (fun v H' => Sp W E text v H' (laysT ls ts err).1 (laysT ls ts err).2) := by
  have hl0 := hls
  obtain ⟨la, lcap, rfl, _⟩ := hl0
  refine ct_of_cw (vs := [_, _]) Tryd.func28 rfl rfl fun w1 => ?_
  refine cw_seq ?_; refine cw_region ?_
  refine ol_box rfl rfl fun b2 => ?_
  refine ol_ev (ev_assign rfl) rfl ?_; refine ol_nil ?_; refine cw_seq ?_; refine cw_region ?_
  refine ol_ev (ev_loadS (cs := b.cells) rfl rfl m0 rfl) rfl ?_
  refine ol_call1 (G := []) (cap := []) rfl rfl rfl (base_ct hE hT b hxl) (List.Perm.refl _) ?_
  rintro v G' hv
  have hsp0 := (hv text ts err hb).sp.app ((b2, (⟨(Value.agg b.cells.toArray).cells.toList, 28, (0, 0)⟩ : HO)) :: H)
  have hin0 : LaysAt W (G' ++ (b2, (⟨(Value.agg b.cells.toArray).cells.toList, 28, (0, 0)⟩ : HO)) :: H) (.slice la ls.length lcap) ls := hls.sub fun p hp => List.mem_append_right _ (List.mem_cons_of_mem _ hp)
  generalize G' ++ (b2, (⟨(Value.agg b.cells.toArray).cells.toList, 28, (0, 0)⟩ : HO)) :: H = T0 at hsp0 hin0 ⊢
  clear hv
  refine ol_ev (ev_assign rfl) rfl ?_; refine ol_nil ?_; refine cw_seq ?_; refine cw_seq ?_; refine cw_region ?_; refine ol_ev (ev_move rfl) rfl ?_; refine ol_ev (ev_len_s rfl) rfl ?_; refine ol_ev (ev_move rfl) rfl ?_; refine ol_nil ?_; refine cw_block ?_
  refine cw_loop (σ := Nat × Value × Heap × List (List UInt8) × Option Nat) (fun g => [(10, .slice la ls.length lcap), (11, .int .i64 (ls.length : Int)), (12, .int .i64 (g.1 : Int)), (5, g.2.1)]) (fun g => g.2.2.1)
    (fun g => g.1 ≤ ls.length ∧ Sp W E text g.2.1 g.2.2.1 g.2.2.2.1 g.2.2.2.2 ∧ LaysAt W g.2.2.1 (.slice la ls.length lcap) ls ∧ laysT (ls.drop g.1) g.2.2.2.1 g.2.2.2.2 = laysT ls ts err) (fun g => ls.length - g.1)
    (0, v, T0, ts, err) ⟨Nat.zero_le _, hsp0, hin0, by simp⟩ (fun a ha => ha.weak ⟨rfl, rfl, rfl, rfl, trivial⟩) rfl ?_
  rintro ⟨i, fv, T, us, er⟩ ⟨hi, hsp, hin, hlt⟩
  simp only at hi hsp hin hlt ⊢
  refine cw_seq ?_; refine cw_region ?_; refine ol_ev (ev_lt rfl rfl) rfl ?_; refine ol_nil ?_; refine cw_seq ?_
  refine cw_ifd rfl (fun h0 => ?_) (fun h0 => ?_)
  · have hx : i < ls.length := by omega
    obtain ⟨a2, cap2, e1, hcell⟩ := hin
    cases e1
    obtain ⟨lb, loff, rfl, hc⟩ := hcell i ls[i] (List.getElem?_eq_getElem hx)
    have hin : LaysAt W T (.slice (some ⟨lb, loff, none⟩) ls.length lcap) ls := ⟨_, _, rfl, hcell⟩
    have hnx := hln ls[i] (List.getElem_mem hx)
    rw [List.drop_eq_getElem_cons hx] at hlt
    generalize ls[i] = ly at hc hnx hlt
    obtain ⟨kd, n, x⟩ := ly
    simp only at hnx
    obtain ⟨σ, fid, cap, step, I, Q, s, rfl, hok, hso, hf, hI, hr⟩ := hsp
    refine cw_skip ?_; refine cw_seq ?_; refine cw_block ?_; refine cw_seq ?_; refine cw_region ?_
    refine ol_ev (ev_idx rfl rfl (by omega) (by omega)) rfl ?_
    refine ol_ev (ev_loadSW (cs := (⟨kd, n, x⟩ : Ly).cells) rfl rfl ?_) rfl ?_
    · rw [show ((i : Nat) : Int).toNat = i by omega]
      rcases hc with hc | hc
      · exact .inl hc
      · exact .inr hc
    refine ol_alloc rfl fun b7 => ?_
    refine ol_storeS (o := ⟨[.int .i64 0, .int .i64 0, str []], 34, (0, 0)⟩) (cs := [.int .i64 kd, .int .i64 n, str x]) rfl rfl rfl (by simp [Value.oneCell', str]) u0 rfl rfl ?_
    show OL _ _ _ _ _ ((b7, ⟨[.int .i64 kd, .int .i64 n, str x], 34, (0, 0)⟩) :: T) _
    refine ol_nil ?_; refine cw_seq ?_; refine cw_region ?_; refine ol_ev (ev_fld rfl) rfl ?_; refine ol_ev (ev_load rfl m0 rfl) rfl ?_; refine ol_nil ?_; refine cw_block ?_; refine cw_seq ?_; refine cw_region ?_; refine ol_ev (ev_eq rfl rfl) rfl ?_; refine ol_ev (ev_assign rfl) rfl ?_; refine ol_nil ?_
    refine cw_ifd rfl (fun h1 => ?_) (fun h1 => ?_)
    · refine cw_region ?_; refine ol_ev (ev_move rfl) rfl ?_; refine ol_ev (ev_fld rfl) rfl ?_; refine ol_ev (ev_load rfl m0 rfl) rfl ?_
      refine ol_call2 (G := []) (cap := []) rfl rfl rfl rfl (takeF_ct n) (List.Perm.refl _) ?_
      rintro v G' ⟨nb, ib, rfl, rfl⟩
      refine ol_ev (ev_assign rfl) rfl ?_; refine ol_nil ?_; refine cw_region ?_; (refine ol_ev (ev_add rfl rfl ?_) rfl ?_; (constructor <;> omega)); refine ol_ev (ev_move rfl) rfl ?_; refine ol_nil ?_
      refine ⟨(i + 1, _, [(nb, (⟨[.int .i64 n], 3, (0, 0)⟩ : HO)), (ib, innO fid cap)] ++ (b7, (⟨[.int .i64 kd, .int .i64 n, str x], 34, (0, 0)⟩ : HO)) :: T, us.take n.toNat, takeE n us er), ⟨hx, ⟨σ × Int, _, _, takeStep step, _, takeQ Q, (s, n), rfl, take_ok hE hok hso nb ib, take_step hso, take_fits hf, ⟨hnx, _, List.Perm.refl _, hok.more _ _ _ hI⟩, take_run hr n⟩, hin.sub fun p hp => List.mem_append_right _ (List.mem_cons_of_mem _ hp), ?_⟩, ⟨rfl, rfl, rfl, rfl, trivial⟩, rfl, by show ls.length - (i + 1) < ls.length - i; omega⟩
      have e1 : (⟨kd, n, x⟩ : Ly).toks us = us.take n.toNat := by unfold Ly.toks; rw [if_pos h1]
      have e2 : (⟨kd, n, x⟩ : Ly).err us er = takeE n us er := by unfold Ly.err; rw [if_pos h1]
      rw [← hlt]
      show laysT (ls.drop (i + 1)) _ _ = laysT (ls.drop (i + 1)) _ _
      rw [e1, e2]
    refine cw_cut (fun l' H' => SubE l' [(10, .slice (some ⟨lb, loff, none⟩) ls.length lcap), (11, .int .i64 (ls.length : Int)), (12, .int .i64 (i : Int)), (5, .func (.func fid) #[] cap.toArray), (7, .pointer (some ⟨b7, 0, none⟩)), (17, .int .i64 kd), (24, .bool (decide (kd = 2 ∨ kd = 3)))] ∧ H' = (b7, (⟨[.int .i64 kd, .int .i64 n, str x], 34, (0, 0)⟩ : HO)) :: T) ?_ ?_
    · refine cw_seq ?_; refine cw_region ?_; refine ol_ev (ev_eq rfl rfl) rfl ?_; refine ol_ev (ev_assign rfl) rfl ?_; refine ol_nil ?_
      refine cw_ifd rfl (fun h2 => ?_) (fun h2 => ?_)
      · refine cw_skip ?_
        refine ⟨⟨rfl, rfl, rfl, rfl, rfl, rfl, ?_, trivial⟩, rfl⟩
        rw [decide_eq_true (show kd = 2 ∨ kd = 3 from .inl h2), ← decide_eq_true h2]; rfl
      · refine cw_region ?_; refine ol_ev (ev_eq rfl rfl) rfl ?_; refine ol_ev (ev_assign rfl) rfl ?_; refine ol_nil ?_
        refine ⟨⟨rfl, rfl, rfl, rfl, rfl, rfl, ?_, trivial⟩, rfl⟩
        rw [show decide (kd = 2 ∨ kd = 3) = decide (kd = 3) by simp [h2]]; rfl
    rintro l' H' ⟨hl', rfl⟩
    refine CW.weak hl' ?_
    clear hl'
    refine cw_ifd rfl (fun h2 => ?_) (fun h2 => ?_)
    · refine cw_region ?_; refine ol_ev (ev_move rfl) rfl ?_; refine ol_ev (ev_fld rfl) rfl ?_; refine ol_ev (ev_load rfl m0 rfl) rfl ?_; refine ol_ev (ev_fld rfl) rfl ?_; refine ol_ev (ev_load rfl m0 rfl) rfl ?_; refine ol_ev (ev_eq rfl rfl) rfl ?_
      refine ol_call3 (G := []) (cap := []) rfl rfl rfl rfl rfl (meetF_ct x (decide (kd = 3))) (List.Perm.refl _) ?_
      rintro v G' ⟨ib, xb, fb, rfl, rfl⟩
      refine ol_ev (ev_assign rfl) rfl ?_; refine ol_nil ?_; refine cw_region ?_; (refine ol_ev (ev_add rfl rfl ?_) rfl ?_; (constructor <;> omega)); refine ol_ev (ev_move rfl) rfl ?_; refine ol_nil ?_
      refine ⟨(i + 1, _, [(fb, (⟨[.bool (decide (kd = 3))], 4, (0, 0)⟩ : HO)), (xb, (⟨[str x], 9, (0, 0)⟩ : HO)), (ib, innO fid cap)] ++ (b7, (⟨[.int .i64 kd, .int .i64 n, str x], 34, (0, 0)⟩ : HO)) :: T, untilT x us, untilE x us (decide (kd = 3)) er), ⟨hx, ⟨σ, _, _, meetStep x (decide (kd = 3)) step, _, meetQ x (decide (kd = 3)) Q, s, rfl, meet_ok hE hok hso ib xb fb x (decide (kd = 3)), meet_step hso, meet_fits hf, ⟨_, rev3, hok.more _ _ _ hI⟩, meet_run hr⟩, hin.sub fun p hp => List.mem_append_right _ (List.mem_cons_of_mem _ hp), ?_⟩, ⟨rfl, rfl, rfl, rfl, trivial⟩, rfl, by show ls.length - (i + 1) < ls.length - i; omega⟩
      have e1 : (⟨kd, n, x⟩ : Ly).toks us = untilT x us := by unfold Ly.toks; rw [if_neg h1, if_pos h2]
      have e2 : (⟨kd, n, x⟩ : Ly).err us er = untilE x us (decide (kd = 3)) er := by unfold Ly.err; rw [if_neg h1, if_pos h2]
      rw [← hlt]
      show laysT (ls.drop (i + 1)) _ _ = laysT (ls.drop (i + 1)) _ _
      rw [e1, e2]
    refine cw_seq ?_; refine cw_region ?_; refine ol_ev (ev_eq rfl rfl) rfl ?_; refine ol_ev (ev_assign rfl) rfl ?_; refine ol_nil ?_
    refine cw_ifd rfl (fun h4 => ?_) (fun h4 => ?_)
    · refine cw_region ?_; refine ol_ev (ev_move rfl) rfl ?_; refine ol_ev (ev_fld rfl) rfl ?_; refine ol_ev (ev_load rfl m0 rfl) rfl ?_
      refine ol_call2 (G := []) (cap := []) rfl rfl rfl rfl (dropXF_ct x) (List.Perm.refl _) ?_
      rintro v G' ⟨ib, xb, rfl, rfl⟩
      refine ol_ev (ev_assign rfl) rfl ?_; refine ol_nil ?_; refine cw_region ?_; (refine ol_ev (ev_add rfl rfl ?_) rfl ?_; (constructor <;> omega)); refine ol_ev (ev_move rfl) rfl ?_; refine ol_nil ?_
      refine ⟨(i + 1, _, [(xb, (⟨[str x], 9, (0, 0)⟩ : HO)), (ib, innO fid cap)] ++ (b7, (⟨[.int .i64 kd, .int .i64 n, str x], 34, (0, 0)⟩ : HO)) :: T, us.filter (fun t => decide (t ≠ x)), er), ⟨hx, ⟨σ, _, _, dropStep x step, _, dropQ x Q, s, rfl, drop_ok hok hso ib xb x, drop_step hso, drop_fits hso hf, ⟨_, List.Perm.swap _ _ _, hok.more _ _ _ hI⟩, drop_run hr⟩, hin.sub fun p hp => List.mem_append_right _ (List.mem_cons_of_mem _ hp), ?_⟩, ⟨rfl, rfl, rfl, rfl, trivial⟩, rfl, by show ls.length - (i + 1) < ls.length - i; omega⟩
      have e1 : (⟨kd, n, x⟩ : Ly).toks us = us.filter (fun t => decide (t ≠ x)) := by unfold Ly.toks; rw [if_neg h1, if_neg h2, if_pos h4]
      have e2 : (⟨kd, n, x⟩ : Ly).err us er = er := by unfold Ly.err; rw [if_neg h1, if_neg h2, if_neg (show ¬ (kd = 7 ∨ kd = 8) by omega)]
      rw [← hlt]
      show laysT (ls.drop (i + 1)) _ _ = laysT (ls.drop (i + 1)) _ _
      rw [e1, e2]
    refine cw_seq ?_; refine cw_region ?_; refine ol_ev (ev_eq rfl rfl) rfl ?_; refine ol_ev (ev_assign rfl) rfl ?_; refine ol_nil ?_
    refine cw_ifd rfl (fun h5 => ?_) (fun h5 => ?_)
    · refine cw_region ?_; refine ol_ev (ev_move rfl) rfl ?_; refine ol_ev (ev_fld rfl) rfl ?_; refine ol_ev (ev_load rfl m0 rfl) rfl ?_
      refine ol_call1 (G := []) (cap := []) rfl rfl rfl (headF_ct n) (List.Perm.refl _) ?_
      rintro v G' ⟨nb, rfl, rfl⟩
      refine ol_call2 (G := []) (cap := []) rfl rfl rfl rfl (changeF_ct 77 [.pointer (some ⟨nb, 0, none⟩)]) (List.Perm.refl _) ?_
      rintro v G' ⟨ib, gb, rfl, rfl⟩
      refine ol_ev (ev_assign rfl) rfl ?_; refine ol_nil ?_; refine cw_region ?_; (refine ol_ev (ev_add rfl rfl ?_) rfl ?_; (constructor <;> omega)); refine ol_ev (ev_move rfl) rfl ?_; refine ol_nil ?_
      refine ⟨(i + 1, _, [(gb, chO 77 [.pointer (some ⟨nb, 0, none⟩)]), (ib, innO fid cap), (nb, (⟨[.int .i64 n], 3, (0, 0)⟩ : HO))] ++ (b7, (⟨[.int .i64 kd, .int .i64 n, str x], 34, (0, 0)⟩ : HO)) :: T, us.map (fun t => t.take n.toNat), er), ⟨hx, ⟨σ, _, _, chStep (fun t => t.take n.toNat) step, _, chQ (fun t => t.take n.toNat) Q, s, rfl, change_ok hok hso (head_ok nb n) (by simp) ib gb, ch_step hso (head_ok (W := W) nb n).le, ch_fits hf, ⟨_, List.Perm.swap _ _ _, hok.more _ _ _ hI⟩, ch_run hr⟩, hin.sub fun p hp => List.mem_append_right _ (List.mem_cons_of_mem _ hp), ?_⟩, ⟨rfl, rfl, rfl, rfl, trivial⟩, rfl, by show ls.length - (i + 1) < ls.length - i; omega⟩
      have e1 : (⟨kd, n, x⟩ : Ly).toks us = us.map (fun t => t.take n.toNat) := by unfold Ly.toks; rw [if_neg h1, if_neg h2, if_neg h4, if_pos h5]
      have e2 : (⟨kd, n, x⟩ : Ly).err us er = er := by unfold Ly.err; rw [if_neg h1, if_neg h2, if_neg (show ¬ (kd = 7 ∨ kd = 8) by omega)]
      rw [← hlt]
      show laysT (ls.drop (i + 1)) _ _ = laysT (ls.drop (i + 1)) _ _
      rw [e1, e2]
    refine cw_seq ?_; refine cw_region ?_; refine ol_ev (ev_eq rfl rfl) rfl ?_; refine ol_ev (ev_assign rfl) rfl ?_; refine ol_nil ?_
    refine cw_ifd rfl (fun h6 => ?_) (fun h6 => ?_)
    · refine cw_region ?_; refine ol_ev (ev_move rfl) rfl ?_
      refine ol_call2 (G := []) (cap := []) rfl rfl rfl rfl (changeF_ct 58 []) (List.Perm.refl _) ?_
      rintro v G' ⟨ib, gb, rfl, rfl⟩
      refine ol_ev (ev_assign rfl) rfl ?_; refine ol_nil ?_; refine cw_region ?_; (refine ol_ev (ev_add rfl rfl ?_) rfl ?_; (constructor <;> omega)); refine ol_ev (ev_move rfl) rfl ?_; refine ol_nil ?_
      refine ⟨(i + 1, _, [(gb, chO 58 []), (ib, innO fid cap)] ++ (b7, (⟨[.int .i64 kd, .int .i64 n, str x], 34, (0, 0)⟩ : HO)) :: T, us.map List.reverse, er), ⟨hx, ⟨σ, _, _, chStep List.reverse step, _, chQ List.reverse Q, s, rfl, change_ok hok hso back_ok (by simp) ib gb, ch_step hso (back_ok (W := W)).le, ch_fits hf, ⟨_, List.Perm.swap _ _ _, hok.more _ _ _ hI⟩, ch_run hr⟩, hin.sub fun p hp => List.mem_append_right _ (List.mem_cons_of_mem _ hp), ?_⟩, ⟨rfl, rfl, rfl, rfl, trivial⟩, rfl, by show ls.length - (i + 1) < ls.length - i; omega⟩
      have e1 : (⟨kd, n, x⟩ : Ly).toks us = us.map List.reverse := by unfold Ly.toks; rw [if_neg h1, if_neg h2, if_neg h4, if_neg h5, if_pos h6]
      have e2 : (⟨kd, n, x⟩ : Ly).err us er = er := by unfold Ly.err; rw [if_neg h1, if_neg h2, if_neg (show ¬ (kd = 7 ∨ kd = 8) by omega)]
      rw [← hlt]
      show laysT (ls.drop (i + 1)) _ _ = laysT (ls.drop (i + 1)) _ _
      rw [e1, e2]
    refine cw_cut (fun l' H' => SubE l' [(10, .slice (some ⟨lb, loff, none⟩) ls.length lcap), (11, .int .i64 (ls.length : Int)), (12, .int .i64 (i : Int)), (5, .func (.func fid) #[] cap.toArray), (7, .pointer (some ⟨b7, 0, none⟩)), (17, .int .i64 kd), (51, .bool (decide (kd = 7 ∨ kd = 8)))] ∧ H' = (b7, (⟨[.int .i64 kd, .int .i64 n, str x], 34, (0, 0)⟩ : HO)) :: T) ?_ ?_
    · refine cw_seq ?_; refine cw_region ?_; refine ol_ev (ev_eq rfl rfl) rfl ?_; refine ol_ev (ev_assign rfl) rfl ?_; refine ol_nil ?_
      refine cw_ifd rfl (fun h7 => ?_) (fun h7 => ?_)
      · refine cw_skip ?_
        refine ⟨⟨rfl, rfl, rfl, rfl, rfl, rfl, ?_, trivial⟩, rfl⟩
        rw [decide_eq_true (show kd = 7 ∨ kd = 8 from .inl h7), ← decide_eq_true h7]; rfl
      · refine cw_region ?_; refine ol_ev (ev_eq rfl rfl) rfl ?_; refine ol_ev (ev_assign rfl) rfl ?_; refine ol_nil ?_
        refine ⟨⟨rfl, rfl, rfl, rfl, rfl, rfl, ?_, trivial⟩, rfl⟩
        rw [show decide (kd = 7 ∨ kd = 8) = decide (kd = 8) by simp [h7]]; rfl
    rintro l' H' ⟨hl', rfl⟩
    refine CW.weak hl' ?_
    clear hl'
    refine cw_ifd rfl (fun h7 => ?_) (fun h7 => ?_)
    · have hm : inI (max n 0) := ⟨by omega, by omega⟩
      have hm2 : (((max n 0).toNat : Nat) : Int) = max n 0 := by omega
      refine cw_region ?_; refine ol_ev (ev_move rfl) rfl ?_; refine ol_ev (ev_fld rfl) rfl ?_; refine ol_ev (ev_load rfl m0 rfl) rfl ?_; refine ol_ev (ev_max rfl rfl) rfl ?_; refine ol_ev (ev_fld rfl) rfl ?_; refine ol_ev (ev_load rfl m0 rfl) rfl ?_; refine ol_ev (ev_eq rfl rfl) rfl ?_
      refine ol_call3 (G := []) (cap := []) rfl rfl rfl rfl rfl (strayF_ct (max n 0) (decide (kd = 7))) (List.Perm.refl _) ?_
      rintro v G' ⟨ib, nb, fb, rfl, rfl⟩
      refine ol_ev (ev_assign rfl) rfl ?_; refine ol_nil ?_; refine cw_region ?_; (refine ol_ev (ev_add rfl rfl ?_) rfl ?_; (constructor <;> omega)); refine ol_ev (ev_move rfl) rfl ?_; refine ol_nil ?_
      have hrun := stray_run (far := decide (kd = 7)) hr (max n 0).toNat
      rw [hm2] at hrun
      refine ⟨(i + 1, _, [(fb, (⟨[.bool (decide (kd = 7))], 4, (0, 0)⟩ : HO)), (nb, (⟨[.int .i64 (max n 0)], 3, (0, 0)⟩ : HO)), (ib, innO fid cap)] ++ (b7, (⟨[.int .i64 kd, .int .i64 n, str x], 34, (0, 0)⟩ : HO)) :: T, us.take (max n 0).toNat, strayE (decide (kd = 7)) (max n 0).toNat us er), ⟨hx, ⟨σ × Int, _, _, strayStep (decide (kd = 7)) step, _, strayQ (decide (kd = 7)) Q, (s, max n 0), rfl, stray_ok hok hso ib nb fb (decide (kd = 7)), stray_step hso, stray_fits hf, ⟨hm, _, rev3, hok.more _ _ _ hI⟩, hrun⟩, hin.sub fun p hp => List.mem_append_right _ (List.mem_cons_of_mem _ hp), ?_⟩, ⟨rfl, rfl, rfl, rfl, trivial⟩, rfl, by show ls.length - (i + 1) < ls.length - i; omega⟩
      have e1 : (⟨kd, n, x⟩ : Ly).toks us = us.take (max n 0).toNat := by unfold Ly.toks; rw [if_neg h1, if_neg h2, if_neg h4, if_neg h5, if_neg h6, if_pos h7]
      have e2 : (⟨kd, n, x⟩ : Ly).err us er = strayE (decide (kd = 7)) (max n 0).toNat us er := by unfold Ly.err; rw [if_neg h1, if_neg h2, if_pos h7]
      rw [← hlt]
      show laysT (ls.drop (i + 1)) _ _ = laysT (ls.drop (i + 1)) _ _
      rw [e1, e2]
    · refine cw_skip ?_; refine cw_region ?_; (refine ol_ev (ev_add rfl rfl ?_) rfl ?_; (constructor <;> omega)); refine ol_ev (ev_move rfl) rfl ?_; refine ol_nil ?_
      refine ⟨(i + 1, _, [] ++ (b7, (⟨[.int .i64 kd, .int .i64 n, str x], 34, (0, 0)⟩ : HO)) :: T, us, er), ⟨hx, ⟨σ, fid, cap, step, I, Q, s, rfl, hok, hso, hf, hok.more _ _ _ hI, hr⟩, hin.sub fun p hp => List.mem_append_right _ (List.mem_cons_of_mem _ hp), ?_⟩, ⟨rfl, rfl, rfl, rfl, trivial⟩, rfl, by show ls.length - (i + 1) < ls.length - i; omega⟩
      have e1 : (⟨kd, n, x⟩ : Ly).toks us = us := by unfold Ly.toks; rw [if_neg h1, if_neg h2, if_neg h4, if_neg h5, if_neg h6, if_neg h7]
      have e2 : (⟨kd, n, x⟩ : Ly).err us er = er := by unfold Ly.err; rw [if_neg h1, if_neg h2, if_neg h7]
      rw [← hlt]
      show laysT (ls.drop (i + 1)) _ _ = laysT (ls.drop (i + 1)) _ _
      rw [e1, e2]
  · rw [List.drop_of_length_le (by omega)] at hlt
    refine cw_exit ?_; refine cw_seq ?_; refine cw_region ?_; refine ol_ev (ev_move rfl) rfl ?_; refine ol_ev (ev_assign rfl) rfl ?_; refine ol_nil ?_; refine cw_ret ?_
    rw [← hlt]
    exact ⟨_, res1 rfl rfl, hsp⟩
end
end Go.HE
