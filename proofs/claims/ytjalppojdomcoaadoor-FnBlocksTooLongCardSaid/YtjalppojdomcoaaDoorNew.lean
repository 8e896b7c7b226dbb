/- How a scanner is made, by contracts. Conditions: the errors are as start-up lays them; the pieces lie in old memory. -/
import Derived.Test.YtjalppojdomcoaaDoorTok
import Derived.Test.YtjalppojdomcoaaDoorFloat
import Derived.Deep.MidRow
import Derived.Laws.Tables
set_option maxRecDepth 100000
set_option maxHeartbeats 4000000
namespace Go.HE
open Go.RowKit Go.Proofs

class TAgg (P : Program) (t : TypeId) (n : outParam Nat) : Prop where
  u : (P.underlying t).map TypeDesc.isRow = some true
  s : (P.info? t).map (·.size) = some n
def rowPlaces (P : Program) (t : TypeId) : Option (List (Nat × Nat)) :=
  match P.underlying t with
  | some (.struct fs) => fs.toList.mapM fun f => (P.info? f.type).map fun i => (f.offset, i.size)
  | _ => none
class TRow (P : Program) (t : TypeId) (zv : outParam Value) (pl : outParam (List (Nat × Nat))) : Prop where
  z : (P.info? t).bind (·.zero) = some zv
  p : rowPlaces P t = some pl

section
variable {P : Program} {C : Cx} {l : Env} {H : Heap} {t ty : TypeId} {x y z : Operand} {zv v0 v1 v2 : Value} {pl : List (Nat × Nat)} {cells : Array Value} {i0 i1 i2 : Nat}
theorem built_row [hT : TRow P t zv pl] (parts : List (Nat × Value)) : P.built t parts = Instr.fill (pl.toArray[·]?) zv.cells parts := by
  have h1 := hT.z
  have h2 := hT.p
  unfold rowPlaces at h2
  unfold Program.built
  cases hi : P.info? t with
  | none => simp [hi] at h1
  | some it =>
    rw [hi] at h1
    simp only [Option.bind_some] at h1
    cases hu : P.underlying t with
    | none => simp [hu] at h2
    | some d =>
      rw [hu] at h2
      cases d <;> first | (simp at h2; done) | skip
      simp only at h2 ⊢
      rw [h1, h2]

theorem ev_build1 [hT : TRow P t zv pl] (hx : ev l x = some v0) (hf : Instr.fill (pl.toArray[·]?) zv.cells [(i0, v0)] = some cells) : Ev P C H l (.build t #[(i0, x)]) ty (.agg cells) := by
  refine ⟨fun a w d pos af g hs hw => ?_⟩
  have := run_build (P := P) w t #[(i0, v0)] cells (by rw [built_row]; exact hf)
  simp [execOp, hs.eval hx, this]
theorem ev_build3 [hT : TRow P t zv pl] (hx : ev l x = some v0) (hy : ev l y = some v1) (hz : ev l z = some v2) (hf : Instr.fill (pl.toArray[·]?) zv.cells [(i0, v0), (i1, v1), (i2, v2)] = some cells) :
    Ev P C H l (.build t #[(i0, x), (i1, y), (i2, z)]) ty (.agg cells) := by
  refine ⟨fun a w d pos af g hs hw => ?_⟩
  have := run_build (P := P) w t #[(i0, v0), (i1, v1), (i2, v2)] cells (by rw [built_row]; exact hf)
  simp [execOp, hs.eval hx, hs.eval hy, hs.eval hz, this]
theorem ev_loadS {b off n : Nat} {o : HO} {cs : List Value} [hT : TAgg P t n] (hn : n = cs.length) (hx : ev l x = some (.pointer (some ⟨b, off, none⟩))) (hb : (b, o) ∈ H) (hc : (o.cells.drop off).take cs.length = cs) : Ev P C H l (.load t x) ty (.agg cs.toArray) := by
  subst hn
  refine ⟨fun a w d pos af g hs hw => ?_⟩
  obtain ⟨dd, hu, hd⟩ := Option.map_eq_some_iff.1 hT.u
  have := run_loadAt_mid (P := P) w b off t cs dd (fun j v hj => St.cell hw hb (by
    have hlt : j < cs.length := (List.getElem?_eq_some_iff.1 hj).1
    rw [← hc, List.getElem?_take_of_lt hlt, List.getElem?_drop] at hj
    exact hj)) hu hd hT.s
  simp [execOp, hs.eval hx, this]
end

instance : TAgg Tryd.prog 27 4 := ⟨by kernel_rfl, by kernel_rfl⟩
instance : TAgg Tryd.prog 29 2 := ⟨by kernel_rfl, by kernel_rfl⟩
instance : TRow Tryd.prog 65 (.agg #[.string ⟨#[]⟩, .slice none 0 0, .bool false, .bool false, .int .i64 0, .int .i64 0]) [(0, 4), (4, 1), (5, 1)] := ⟨by kernel_rfl, by kernel_rfl⟩
instance : TRow Tryd.prog 75 (.agg #[.nilIface, .nilFunc, .int .i64 0, .slice none 0 0, .slice none 0 0, .int .i64 0, .int .i64 0, .nilIface, .int .i64 0, .bool false, .bool false]) [(0, 1), (1, 1), (2, 1), (3, 1), (4, 1), (5, 1), (6, 1), (7, 1), (8, 1), (9, 1), (10, 1)] := ⟨by kernel_rfl, by kernel_rfl⟩

section
variable {W : World} {E : Nat → Addr}
theorem newScanner_ct (rb : Nat) : Ct Tryd.prog W 37 #[.iface 63 (.pointer (some ⟨rb, 0, none⟩))] []
    (fun v H' => ∃ sb, v = .pointer (some ⟨sb, 0, none⟩) ∧ H' = [(sb, scL E rb (.func (.func 45) #[] #[]) 65536 (.slice none 0 0) (.slice none 0 0) 0 0 none 0 false false)]) := by
  refine ct_of_cw (vs := [_]) Tryd.func37 rfl rfl fun w1 => ?_
  refine cw_seq ?_; refine cw_region ?_; refine ol_ev (ev_assign rfl) rfl ?_; refine ol_nil ?_; refine cw_seq ?_; refine cw_region ?_; refine ol_ev (ev_move rfl) rfl ?_
  refine ol_ev (ev_build3 rfl rfl rfl rfl) rfl ?_
  refine ol_box rfl rfl fun sb => ?_
  refine ol_ev (ev_assign rfl) rfl ?_; refine ol_nil ?_; refine cw_ret ?_
  exact ⟨_, res1 rfl rfl, sb, rfl, rfl⟩

theorem buffer_ct (s : Sc) (sb bb c : Nat) (mx : Int) (hc : s.called = false) :
    Ct Tryd.prog W 38 #[.pointer (some ⟨sb, 0, none⟩), .slice (some ⟨bb, 0, none⟩) 0 c, .int .i64 mx] [(sb, s.ho E)]
      (fun _ H' => H' = [(sb, ({ s with buf := .slice (some ⟨bb, 0, none⟩) c c, mx := mx } : Sc).ho E)]) := by
  obtain ⟨rb, sv, mx0, tok, buf, start, end_, err, emp, called, done⟩ := s
  simp only at hc
  subst hc
  refine ct_of_cw (vs := [_, _, _]) Tryd.func38 rfl rfl fun w1 => ?_
  show CW _ _ _ _ [(sb, scL E rb sv mx0 tok buf start end_ err emp false done)] _
  refine cw_seq ?_; refine cw_seq ?_; refine cw_region ?_; refine ol_ev (ev_move rfl) rfl ?_; refine ol_ev (ev_nilP rfl) rfl ?_; refine ol_ev (ev_fld rfl) rfl ?_; refine ol_ev (ev_load rfl m0 rfl) rfl ?_; refine ol_nil ?_; refine cw_if_f rfl ?_; refine cw_skip ?_; refine cw_seq ?_; refine cw_region ?_; (iterate 3 (refine ol_ev (ev_move rfl) rfl ?_)); refine ol_ev (ev_cap_s rfl) rfl ?_
  refine ol_ev (ev_slice_any rfl rfl rfl (by omega) (by omega) (by omega)) rfl ?_
  have e0 : (if c = (0 : Int).toNat then (some ⟨bb, 0, none⟩ : Option Addr) else (some ⟨bb, 0, none⟩ : Option Addr).map (·.add (0 : Int).toNat)) = some ⟨bb, 0, none⟩ := by
    split <;> rfl
  rw [e0]
  refine ol_ev (ev_nilP rfl) rfl ?_; refine ol_ev (ev_fld rfl) rfl ?_; refine ol_store rfl rfl rfl u0 rfl rfl ?_; refine ol_nil ?_; refine cw_region ?_; refine ol_ev (ev_move rfl) rfl ?_; refine ol_ev (ev_move rfl) rfl ?_; refine ol_ev (ev_nilP rfl) rfl ?_; refine ol_ev (ev_fld rfl) rfl ?_; refine ol_store rfl rfl rfl u0 rfl rfl ?_; refine ol_nil ?_
  exact ⟨_, res0 rfl, rfl⟩

theorem split_ct (s : Sc) (sb fid : Nat) (cap : List Value) (hc : s.called = false) :
    Ct Tryd.prog W 39 #[.pointer (some ⟨sb, 0, none⟩), .func (.func fid) #[] cap.toArray] [(sb, s.ho E)] (fun _ H' => H' = [(sb, ({ s with sv := .func (.func fid) #[] cap.toArray } : Sc).ho E)]) := by
  obtain ⟨rb, sv0, mx0, tok, buf, start, end_, err, emp, called, done⟩ := s
  simp only at hc
  subst hc
  refine ct_of_cw (vs := [_, _]) Tryd.func39 rfl rfl fun w1 => ?_
  show CW _ _ _ _ [(sb, scL E rb sv0 mx0 tok buf start end_ err emp false done)] _
  refine cw_seq ?_; refine cw_seq ?_; refine cw_region ?_; refine ol_ev (ev_move rfl) rfl ?_; refine ol_ev (ev_nilP rfl) rfl ?_; refine ol_ev (ev_fld rfl) rfl ?_; refine ol_ev (ev_load rfl m0 rfl) rfl ?_; refine ol_nil ?_; refine cw_if_f rfl ?_; refine cw_skip ?_; refine cw_region ?_; refine ol_ev (ev_move rfl) rfl ?_; refine ol_ev (ev_move rfl) rfl ?_; refine ol_ev (ev_nilP rfl) rfl ?_; refine ol_ev (ev_fld rfl) rfl ?_; refine ol_store rfl rfl rfl u0 rfl rfl ?_; refine ol_nil ?_
  exact ⟨_, res0 rfl, rfl⟩

section
variable {σ : Type} {fid : Nat} {cap : List Value} {step : σ → List UInt8 → Bool → Ans σ} {I : σ → Heap → Prop}
/-- A scanner's state when it is made. -/
def startM (s : σ) (text : List UInt8) (pv : Value) (tog brk : Bool) (c most : Int) : M σ :=
  if 0 ≤ c then ⟨s, [], 0, (min c 1048576).toNat, most, ⟨text, pv, tog, brk, 0, 0⟩, none, 0⟩ else ⟨s, [], 0, 0, 65536, ⟨text, pv, tog, brk, 0, 0⟩, none, 0⟩

theorem scanner_ct (hsp : SplitOk W E fid cap step I) (ps : List Int) (s : σ) (T : Heap) (text : List UInt8) (pv : Value) (tog brk : Bool) (c most : Int) (hI : I s T) (hpv : Pcs W pv ps) (htl : text.length ≤ 4611686018427387904) (hpl : ps.length ≤ 4611686018427387904) (hmost : most ≤ 9223372036854775807) :
    Ct Tryd.prog W 30 #[.agg #[str text, pv, .bool tog, .bool brk], .agg #[.int .i64 c, .int .i64 most], .func (.func fid) #[] cap.toArray] T
      (fun v H' => ∃ sb rb, v = .pointer (some ⟨sb, 0, none⟩) ∧ Ready W E ps I sb rb (.func (.func fid) #[] cap.toArray) (startM s text pv tog brk c most) false H') := by
  have hok : RdOk W ⟨text, pv, tog, brk, 0, 0⟩ ps := ⟨hpv, Nat.zero_le _, htl, Nat.zero_le _, hpl⟩
  obtain ⟨pa, pcap, hpv', _⟩ := hpv
  subst hpv'
  refine ct_of_cw (vs := [_, _, _]) Tryd.func30 rfl rfl fun w1 => ?_
  refine cw_seq ?_; refine cw_region ?_
  refine ol_box rfl rfl fun b3 => ?_
  refine ol_box rfl rfl fun b4 => ?_
  refine ol_ev (ev_assign rfl) rfl ?_; refine ol_nil ?_; refine cw_seq ?_; refine cw_region ?_
  refine ol_ev (ev_loadS (cs := [str text, .slice pa ps.length pcap, .bool tog, .bool brk]) rfl rfl m1 rfl) rfl ?_
  refine ol_ev (ev_build1 rfl rfl) rfl ?_
  refine ol_box rfl rfl fun rb => ?_
  refine ol_ev (ev_mkiface rfl) rfl ?_
  refine ol_call1 (G := []) (cap := []) rfl rfl rfl (newScanner_ct (E := E) rb) (List.Perm.refl _) ?_
  rintro v G' ⟨sb, rfl, rfl⟩
  refine ol_ev (ev_assign rfl) rfl ?_; refine ol_nil ?_; refine cw_seq ?_; refine cw_seq ?_; refine cw_region ?_; refine ol_ev (ev_fld rfl) rfl ?_; refine ol_ev (ev_load rfl m2 rfl) rfl ?_; refine ol_ev (ev_ge rfl rfl) rfl ?_; refine ol_nil ?_
  refine CW.weak (r := [(15, .bool (decide (0 ≤ c))), (7, .pointer (some ⟨sb, 0, none⟩)), (4, .pointer (some ⟨b4, 0, none⟩)), (2, .func (.func fid) #[] cap.toArray)]) ⟨rfl, rfl, rfl, rfl, trivial⟩ ?_
  show CW _ _ _ _ ((sb, scL E rb (.func (.func 45) #[] #[]) 65536 (.slice none 0 0) (.slice none 0 0) 0 0 none 0 false false) :: (rb, (⟨text, .slice pa ps.length pcap, tog, brk, 0, 0⟩ : Rd).ho) :: (b4, ⟨[.int .i64 c, .int .i64 most], 29, (0, 0)⟩) ::
    (b3, ⟨[str text, .slice pa ps.length pcap, .bool tog, .bool brk], 27, (0, 0)⟩) :: T) _
  generalize hb3 : (⟨[str text, .slice pa ps.length pcap, .bool tog, .bool brk], 27, (0, 0)⟩ : HO) = o3
  refine cw_ifd rfl (fun h => ?_) (fun h => ?_)
  · refine cw_float [(0, false), (1, false), (2, false), (3, false), (5, false), (6, false), (4, true), (7, true)] [(b4, ⟨[.int .i64 c, .int .i64 most], 29, (0, 0)⟩)] mixed (by kernel_rfl) (List.Sublist.cons _ (List.Sublist.cons _ (List.Sublist.cons_cons _ (List.nil_sublist _)))) (fun _ _ _ h => h) (fun _ _ h => h) ?_
    refine fl_ev rfl (ev_move rfl) rfl ?_; refine fl_ev rfl (ev_fld rfl) rfl ?_; refine fl_ev rfl (ev_load rfl m0 rfl) rfl ?_; refine fl_ev rfl (ev_min rfl rfl) rfl ?_; refine fl_ev rfl (ev_fld rfl) rfl ?_; refine fl_ev rfl (ev_load rfl m0 rfl) rfl ?_
    refine fl_x rfl ?_
    refine ol_make (n := 0) (c := min c 1048576) rfl rfl (by omega) (by omega) (by omega) (by omega) rfl rfl ?_
    intro bb
    refine ol_nil ⟨sub_cons m3 sub_nil, ?_⟩
    refine fl_x rfl ?_
    refine ol_call3 (cap := []) (R := (bb, ⟨List.replicate (min c 1048576).toNat (.int .u8 0), 5, (0, 0)⟩) :: (rb, (⟨text, .slice pa ps.length pcap, tog, brk, 0, 0⟩ : Rd).ho) :: (b4, ⟨[.int .i64 c, .int .i64 most], 29, (0, 0)⟩) :: (b3, o3) :: T) rfl rfl rfl rfl rfl
      (buffer_ct (E := E) ⟨rb, .func (.func 45) #[] #[], 65536, .slice none 0 0, .slice none 0 0, 0, 0, none, 0, false, false⟩ sb bb (min c 1048576).toNat most rfl) (List.Perm.swap _ _ _) ?_
    rintro v G' rfl
    refine ol_nil ⟨sub_cons m3 sub_nil, ?_⟩
    refine fl_nil ?_
    refine cw_seq ?_; refine cw_region ?_; refine ol_ev (ev_move rfl) rfl ?_; refine ol_ev (ev_move rfl) rfl ?_
    refine ol_call2 (cap := []) (G := [_]) (R := (bb, ⟨List.replicate (min c 1048576).toNat (.int .u8 0), 5, (0, 0)⟩) :: (rb, (⟨text, .slice pa ps.length pcap, tog, brk, 0, 0⟩ : Rd).ho) :: (b4, ⟨[.int .i64 c, .int .i64 most], 29, (0, 0)⟩) :: (b3, o3) :: T) rfl rfl rfl rfl
      (split_ct (E := E) ⟨rb, .func (.func 45) #[] #[], most, .slice none 0 0, .slice (some ⟨bb, 0, none⟩) (min c 1048576).toNat (min c 1048576).toNat, 0, 0, none, 0, false, false⟩ sb fid cap rfl) (List.Perm.refl _) ?_
    rintro v G' rfl
    refine OL.perm (K := (sb, scL E rb (.func (.func fid) #[] cap.toArray) most (.slice none 0 0) (.slice (some ⟨bb, 0, none⟩) (min c 1048576).toNat (min c 1048576).toNat) 0 0 none 0 false false) :: (rb, (⟨text, .slice pa ps.length pcap, tog, brk, 0, 0⟩ : Rd).ho) :: (bb, ⟨List.replicate (min c 1048576).toNat (.int .u8 0), 5, (0, 0)⟩) :: (b4, ⟨[.int .i64 c, .int .i64 most], 29, (0, 0)⟩) :: (b3, o3) :: T) ((List.Perm.swap _ _ _).cons _) ?_
    refine ol_nil ?_; refine cw_seq ?_; refine cw_region ?_; refine ol_ev (ev_move rfl) rfl ?_; refine ol_ev (ev_assign rfl) rfl ?_; refine ol_nil ?_; refine cw_ret ?_
    refine ⟨_, res1 rfl rfl, sb, rb, rfl, ?_⟩
    unfold startM
    rw [if_pos h]
    have hz : List.replicate (min c 1048576).toNat (Value.int .u8 0) = bcells (List.replicate (min c 1048576).toNat 0) := by simp [bcells, bv]
    rw [hz]
    exact .inl ⟨bb, List.replicate (min c 1048576).toNat 0, _, _, false, rfl, ⟨⟨by simp, by show (min c 1048576).toNat ≤ _; omega, hok, (fun k hk => by cases hk), by simp, hmost⟩, by simp, by simp, hsp.more _ _ _ (hsp.more _ _ _ hI), .inl rfl⟩⟩
  · refine cw_skip ?_; refine cw_seq ?_; refine cw_region ?_; refine ol_ev (ev_move rfl) rfl ?_; refine ol_ev (ev_move rfl) rfl ?_
    refine ol_call2 (cap := []) (G := [_]) (R := (rb, (⟨text, .slice pa ps.length pcap, tog, brk, 0, 0⟩ : Rd).ho) :: (b4, ⟨[.int .i64 c, .int .i64 most], 29, (0, 0)⟩) :: (b3, o3) :: T) rfl rfl rfl rfl
      (split_ct (E := E) ⟨rb, .func (.func 45) #[] #[], 65536, .slice none 0 0, .slice none 0 0, 0, 0, none, 0, false, false⟩ sb fid cap rfl) (List.Perm.refl _) ?_
    rintro v G' rfl
    refine ol_nil ?_; refine cw_seq ?_; refine cw_region ?_; refine ol_ev (ev_move rfl) rfl ?_; refine ol_ev (ev_assign rfl) rfl ?_; refine ol_nil ?_; refine cw_ret ?_
    refine ⟨_, res1 rfl rfl, sb, rb, rfl, ?_⟩
    unfold startM
    rw [if_neg h]
    exact .inr ⟨rfl, _, false, rfl, ⟨rfl, rfl, rfl, rfl, rfl, by simp⟩, ⟨by simp, by simp, hok, (fun k hk => by cases hk), by simp, by simp⟩, hsp.more _ _ _ (hsp.more _ _ _ hI)⟩
end
end
end Go.HE
