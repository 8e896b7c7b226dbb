/- The reader of package impl: what its Read does, by a contract. Conditions: the errors are as start-up lays them; the pieces lie in old memory; sizes below 2 to the 62nd. -/
import Derived.Test.YtjalppojdomcoaaDoorErr
set_option maxRecDepth 100000
set_option maxHeartbeats 4000000
namespace Go.HE
open Go.RowKit Go.Proofs

/-- A slice of ints in memory that was there when the law began. -/
def Pcs (W : World) (pv : Value) (ps : List Int) : Prop :=
  ∃ pa cap, pv = .slice pa ps.length cap ∧ ∀ i p, ps[i]? = some p → ∃ b off, pa = some ⟨b, off, none⟩ ∧ W.cell? ⟨b, off + i, none⟩ = some (.int .i64 p)

/-- A reader: its source, its place in the text, and its place in the pieces. -/
structure Rd where
  text : List UInt8
  pv : Value
  tog : Bool
  brk : Bool
  at' : Nat
  k : Nat

def Rd.ho (r : Rd) : HO := ⟨[str r.text, r.pv, .bool r.tog, .bool r.brk, .int .i64 (r.at' : Int), .int .i64 (r.k : Int)], 65, (0, 0)⟩

/-- How many bytes a call of Read hands out. -/
def rdN (r : Rd) (ps : List Int) (len : Nat) : Nat :=
  match ps[r.k]? with
  | some p => min (min len (r.text.length - r.at')) (max 1 p).toNat
  | none => min len (r.text.length - r.at')

def rdNext (r : Rd) (ps : List Int) (len : Nat) : Rd := { r with at' := r.at' + rdN r ps len, k := if r.k < ps.length then r.k + 1 else r.k }

def rdErr (r : Rd) (ps : List Int) (len : Nat) : Option Nat :=
  if r.at' + rdN r ps len < r.text.length ∨ (0 < rdN r ps len ∧ r.tog = false) then none else some (if r.brk then 8 else 0)

structure RdOk (W : World) (r : Rd) (ps : List Int) : Prop where
  pcs : Pcs W r.pv ps
  at_ : r.at' ≤ r.text.length
  len : r.text.length ≤ 4611686018427387904
  k : r.k ≤ ps.length
  plen : ps.length ≤ 4611686018427387904

variable {W : World} {E : Nat → Addr}

theorem read_ct (hE : Errs W E) (r : Rd) (ps : List Int) (hr : RdOk W r ps) (rb bb off len cap : Nat) (cells : List Value) (hb : off + len ≤ cells.length) (hcap : len ≤ 4611686018427387904) :
    Ct Tryd.prog W 64 #[.pointer (some ⟨rb, 0, none⟩), .slice (some ⟨bb, off, none⟩) len cap] [(rb, r.ho), (bb, ⟨cells, 5, (0, 0)⟩)]
      (fun v H' => v = .tuple #[.int .i64 (rdN r ps len : Int), errO E (rdErr r ps len)] ∧
        H' = [(rb, (rdNext r ps len).ho), (bb, ⟨splice cells off (bcells ((r.text.drop r.at').take (rdN r ps len))), 5, (0, 0)⟩)]) := by
  obtain ⟨pa, pcap, hpv, hps⟩ := hr.pcs
  obtain ⟨text, pv, tog, brk, at', k⟩ := r
  simp only at hpv
  subst hpv
  have hat := hr.at_
  have hlen := hr.len
  have hk := hr.k
  have hpl := hr.plen
  simp only at hat hlen hk hps
  have hN : ∀ p, ps[k]? = some p → rdN ⟨text, .slice pa ps.length pcap, tog, brk, at', k⟩ ps len = min (min len (text.length - at')) (max 1 p).toNat := fun p hp => by simp [rdN, hp]
  have hN0 : ps[k]? = none → rdN ⟨text, .slice pa ps.length pcap, tog, brk, at', k⟩ ps len = min len (text.length - at') := fun hp => by simp [rdN, hp]
  have hle : rdN ⟨text, .slice pa ps.length pcap, tog, brk, at', k⟩ ps len ≤ min len (text.length - at') := by
    cases hp : ps[k]? with
    | none => rw [hN0 hp]; exact Nat.le_refl _
    | some p => rw [hN p hp]; exact Nat.min_le_left _ _
  have hk1 : (rdNext ⟨text, .slice pa ps.length pcap, tog, brk, at', k⟩ ps len).k = if k < ps.length then k + 1 else k := rfl
  have hs1 : (rdNext ⟨text, .slice pa ps.length pcap, tog, brk, at', k⟩ ps len).ho = ⟨[str text, .slice pa ps.length pcap, .bool tog, .bool brk, .int .i64 ((at' + rdN ⟨text, .slice pa ps.length pcap, tog, brk, at', k⟩ ps len : Nat) : Int), .int .i64 ((if k < ps.length then k + 1 else k : Nat) : Int)], 65, (0, 0)⟩ := rfl
  rw [hs1]
  have he1 : rdErr ⟨text, .slice pa ps.length pcap, tog, brk, at', k⟩ ps len = if at' + rdN ⟨text, .slice pa ps.length pcap, tog, brk, at', k⟩ ps len < text.length ∨ (0 < rdN ⟨text, .slice pa ps.length pcap, tog, brk, at', k⟩ ps len ∧ tog = false) then none else some (if brk then 8 else 0) := rfl
  rw [he1]
  clear hs1 he1 hk1 hr
  generalize rdN ⟨text, .slice pa ps.length pcap, tog, brk, at', k⟩ ps len = n at *
  show Ct _ _ _ _ [(rb, ⟨[str text, .slice pa ps.length pcap, .bool tog, .bool brk, .int .i64 (at' : Int), .int .i64 (k : Int)], 65, (0, 0)⟩), (bb, ⟨cells, 5, (0, 0)⟩)] (fun v H' => _ ∧ H' = [_, (bb, ⟨splice cells off (bcells ((text.drop at').take n)), _, _⟩)])
  refine ct_of_cw (vs := [_, _]) Tryd.func64 rfl rfl fun w1 => ?_
  refine cw_seq ?_; refine cw_region ?_; refine ol_ev (ev_assign rfl) rfl ?_; refine ol_ev (ev_assign rfl) rfl ?_; refine ol_nil ?_; refine cw_seq ?_
  refine cw_still mixed (by kernel_rfl) ?_
  refine sl_ev (ev_move rfl) rfl ?_; refine sl_ev (ev_len_s rfl) rfl ?_; refine sl_ev (ev_move rfl) rfl ?_; refine sl_ev (ev_nilP rfl) rfl ?_; refine sl_ev (ev_fld rfl) rfl ?_; refine sl_ev (ev_fld rfl) rfl ?_; refine sl_ev (ev_load rfl m0 rfl) rfl ?_; refine sl_ev (ev_len_str rfl) rfl ?_; refine sl_ev (ev_move rfl) rfl ?_; refine sl_ev (ev_nilP rfl) rfl ?_; refine sl_ev (ev_fld rfl) rfl ?_; refine sl_ev (ev_load rfl m0 rfl) rfl ?_; (refine sl_ev (ev_sub rfl rfl ?_) rfl ?_; (constructor <;> omega)); refine sl_ev (ev_min rfl rfl) rfl ?_; refine sl_ev (ev_assign rfl) rfl ?_; refine sl_nil ?_
  refine cw_cut (fun l' H' => SubE l' [(0, .pointer (some ⟨rb, 0, none⟩)), (1, .slice (some ⟨bb, off, none⟩) len cap), (6, .int .i64 (n : Int))] ∧ H' = [(rb, ⟨[str text, .slice pa ps.length pcap, .bool tog, .bool brk, .int .i64 (at' : Int), .int .i64 ((if k < ps.length then k + 1 else k : Nat) : Int)], 65, (0, 0)⟩), (bb, ⟨cells, 5, (0, 0)⟩)]) ?_ ?_
  · refine cw_seq ?_
    refine cw_still mixed (by kernel_rfl) ?_
    refine sl_ev (ev_move rfl) rfl ?_; refine sl_ev (ev_nilP rfl) rfl ?_; refine sl_ev (ev_fld rfl) rfl ?_; refine sl_ev (ev_load rfl m0 rfl) rfl ?_; refine sl_ev (ev_move rfl) rfl ?_; refine sl_ev (ev_nilP rfl) rfl ?_; refine sl_ev (ev_fld rfl) rfl ?_; refine sl_ev (ev_fld rfl) rfl ?_; refine sl_ev (ev_load rfl m0 rfl) rfl ?_; refine sl_ev (ev_len_s rfl) rfl ?_; refine sl_ev (ev_lt rfl rfl) rfl ?_; refine sl_nil ?_
    refine cw_ifd rfl (fun h => ?_) (fun h => ?_)
    · have hkl : k < ps.length := by omega
      obtain ⟨b, o2, hpa, hcell⟩ := hps k ps[k] (List.getElem?_eq_getElem hkl)
      have hn := hN ps[k] (List.getElem?_eq_getElem hkl)
      subst hpa
      refine cw_seq ?_
      refine cw_still mixed (by kernel_rfl) ?_
      refine sl_ev (ev_move rfl) rfl ?_; refine sl_ev (ev_move rfl) rfl ?_; refine sl_ev (ev_nilP rfl) rfl ?_; refine sl_ev (ev_fld rfl) rfl ?_; refine sl_ev (ev_fld rfl) rfl ?_; refine sl_ev (ev_load rfl m0 rfl) rfl ?_; refine sl_ev (ev_move rfl) rfl ?_; refine sl_ev (ev_nilP rfl) rfl ?_; refine sl_ev (ev_fld rfl) rfl ?_; refine sl_ev (ev_load rfl m0 rfl) rfl ?_
      refine sl_ev (ev_idx1 rfl rfl (by omega) (by omega)) rfl (sl_ev (ev_loadW rfl hcell) rfl ?_)
      refine sl_ev (ev_max rfl rfl) rfl ?_; refine sl_ev (ev_min rfl rfl) rfl ?_; refine sl_ev (ev_assign rfl) rfl ?_; refine sl_nil ?_
      refine cw_region ?_; refine ol_ev (ev_move rfl) rfl ?_; refine ol_ev (ev_nilP rfl) rfl ?_; refine ol_ev (ev_fld rfl) rfl ?_; refine ol_ev (ev_load rfl m0 rfl) rfl ?_; (refine ol_ev (ev_add rfl rfl ?_) rfl ?_; (constructor <;> omega)); refine ol_ev (ev_nilP rfl) rfl ?_; refine ol_ev (ev_fld rfl) rfl ?_; refine ol_store rfl rfl rfl u0 rfl rfl ?_; refine ol_nil ?_
      refine ⟨⟨rfl, rfl, ?_, trivial⟩, ?_⟩
      · show some _ = some _
        congr 2
        omega
      · simp only [if_pos hkl]; rfl
    · have hn := hN0 (List.getElem?_eq_none (by omega))
      refine cw_skip ?_
      refine ⟨⟨rfl, rfl, ?_, trivial⟩, ?_⟩
      · show some _ = some _
        congr 2
        omega
      · have hkl : ¬ k < ps.length := by omega
        simp only [if_neg hkl]
  · rintro l' H' ⟨hl, rfl⟩
    refine CW.weak hl ?_
    clear hN hN0 hps hl
    refine cw_seq ?_
    refine cw_tail 17 mixed (by kernel_rfl) ?_
    refine sl_ev (ev_move rfl) rfl ?_; refine sl_ev (ev_move rfl) rfl ?_; refine sl_ev (ev_nilP rfl) rfl ?_; refine sl_ev (ev_fld rfl) rfl ?_; refine sl_ev (ev_fld rfl) rfl ?_; refine sl_ev (ev_load rfl m0 rfl) rfl ?_; refine sl_ev (ev_move rfl) rfl ?_; refine sl_ev (ev_nilP rfl) rfl ?_; refine sl_ev (ev_fld rfl) rfl ?_; refine sl_ev (ev_load rfl m0 rfl) rfl ?_; refine sl_ev (ev_move rfl) rfl ?_; refine sl_ev (ev_nilP rfl) rfl ?_; refine sl_ev (ev_fld rfl) rfl ?_; refine sl_ev (ev_load rfl m0 rfl) rfl ?_; refine sl_ev (ev_move rfl) rfl ?_; (refine sl_ev (ev_add rfl rfl ?_) rfl ?_; (constructor <;> omega))
    refine sl_ev (ev_slice_str rfl rfl rfl (by omega) (by omega) (by omega)) rfl (sl_nil ?_)
    have hsub : sub text (at' : Int).toNat ((at' : Int) + (n : Int)).toNat = (text.drop at').take n := by
      unfold sub; congr 1; omega
    have hsl : ((text.drop at').take n).length = n := by simp; omega
    rw [hsub]
    refine ol_copy_str (n := n) rfl rfl (by rw [hsl]; omega) rfl (by show off + n ≤ cells.length; omega) u1 rfl ?_
    rw [List.take_of_length_le (by omega : ((text.drop at').take n).length ≤ n)]
    refine ol_nil ?_; refine cw_seq ?_; refine cw_region ?_; refine ol_ev (ev_move rfl) rfl ?_; refine ol_ev (ev_nilP rfl) rfl ?_; refine ol_ev (ev_fld rfl) rfl ?_; refine ol_ev (ev_load rfl m0 rfl) rfl ?_; refine ol_ev (ev_move rfl) rfl ?_; (refine ol_ev (ev_add rfl rfl ?_) rfl ?_; (constructor <;> omega)); refine ol_ev (ev_nilP rfl) rfl ?_; refine ol_ev (ev_fld rfl) rfl ?_; refine ol_store rfl rfl rfl u0 rfl rfl ?_; refine ol_nil ?_; refine cw_seq ?_; refine cw_seq ?_
    refine cw_still mixed (by kernel_rfl) ?_
    refine sl_ev (ev_move rfl) rfl ?_; refine sl_ev (ev_nilP rfl) rfl ?_; refine sl_ev (ev_fld rfl) rfl ?_; refine sl_ev (ev_load rfl m0 rfl) rfl ?_; refine sl_ev (ev_move rfl) rfl ?_; refine sl_ev (ev_nilP rfl) rfl ?_; refine sl_ev (ev_fld rfl) rfl ?_; refine sl_ev (ev_fld rfl) rfl ?_; refine sl_ev (ev_load rfl m0 rfl) rfl ?_; refine sl_ev (ev_len_str rfl) rfl ?_; refine sl_ev (ev_lt rfl rfl) rfl ?_; refine sl_ev (ev_move rfl) rfl ?_
    by_cases h1 : (at' : Int) + (n : Int) < (text.length : Int)
    · rw [decide_eq_true h1]
      (iterate 3 (refine sl_off rfl rfl rfl rfl rfl ?_)); (iterate 6 (refine sl_offu rfl rfl rfl rfl ?_)); refine sl_off rfl rfl rfl rfl rfl ?_; refine sl_ev (ev_pick_t rfl rfl) rfl ?_; refine sl_nil ?_
      refine cw_if_t rfl ?_; refine cw_seq ?_; refine cw_region ?_; refine ol_ev (ev_move rfl) rfl ?_; refine ol_ev (ev_assign rfl) rfl ?_; refine ol_ev (ev_assign rfl) rfl ?_; refine ol_nil ?_; refine cw_ret ?_
      refine ⟨_, res2 rfl rfl rfl, ?_, rfl⟩
      rw [if_pos (.inl (by omega))]; rfl
    · rw [decide_eq_false h1]
      refine sl_on rfl rfl rfl ?_; refine sl_ev (ev_move rfl) rfl ?_; refine sl_on rfl rfl rfl ?_; refine sl_ev (ev_gt rfl rfl) rfl ?_; refine sl_on rfl rfl rfl ?_; refine sl_ev (ev_move rfl) rfl ?_
      by_cases h2 : (0 : Int) < (n : Int)
      · rw [decide_eq_true h2]
        refine sl_on rfl rfl rfl ?_; refine sl_ev (ev_move rfl) rfl ?_; refine sl_on rfl rfl rfl ?_; refine sl_ev (ev_nilP rfl) rfl ?_; refine sl_on rfl rfl rfl ?_; refine sl_ev (ev_fld rfl) rfl ?_; refine sl_on rfl rfl rfl ?_; refine sl_ev (ev_fld rfl) rfl ?_; refine sl_on rfl rfl rfl ?_; refine sl_ev (ev_load rfl m0 rfl) rfl ?_; refine sl_on rfl rfl rfl ?_; refine sl_ev (ev_not rfl) rfl ?_; refine sl_on rfl rfl rfl ?_; refine sl_ev (ev_pick_t rfl rfl) rfl ?_; refine sl_ev (ev_pick_f rfl rfl) rfl ?_; refine sl_nil ?_
        cases tog
        · refine cw_if_t rfl ?_; refine cw_seq ?_; refine cw_region ?_; refine ol_ev (ev_move rfl) rfl ?_; refine ol_ev (ev_assign rfl) rfl ?_; refine ol_ev (ev_assign rfl) rfl ?_; refine ol_nil ?_; refine cw_ret ?_
          refine ⟨_, res2 rfl rfl rfl, ?_, rfl⟩
          rw [if_pos (.inr ⟨by omega, rfl⟩)]; rfl
        · rw [if_neg (by intro h; rcases h with h | h <;> simp_all <;> omega)]
          refine cw_if_f rfl ?_; refine cw_skip ?_; refine cw_seq ?_; refine cw_seq ?_; refine cw_region ?_; refine ol_ev (ev_move rfl) rfl ?_; refine ol_ev (ev_nilP rfl) rfl ?_; refine ol_ev (ev_fld rfl) rfl ?_; refine ol_ev (ev_fld rfl) rfl ?_; refine ol_ev (ev_load rfl m0 rfl) rfl ?_; refine ol_nil ?_
          cases brk
          all_goals
            repeat (first | refine ol_ev (ev_move rfl) rfl ?_ | refine ol_ev (ev_nilP rfl) rfl ?_ | refine ol_ev (ev_fld rfl) rfl ?_ | refine ol_ev (ev_load rfl m0 rfl) rfl ?_ | refine ol_ev (ev_load rfl m1 rfl) rfl ?_ | refine ol_ev (ev_load rfl m2 rfl) rfl ?_ | refine ol_ev (ev_load rfl m3 rfl) rfl ?_ | refine ol_ev (ev_assign rfl) rfl ?_ | refine cw_seq ?_ | refine cw_region ?_ | refine ol_nil ?_ | refine cw_ret ?_ | refine cw_skip ?_ | refine cw_block ?_ | refine cw_exit ?_ | refine cw_if_t rfl ?_ | refine cw_if_f rfl ?_ | refine ol_ev (ev_extract rfl rfl) rfl ?_ | refine ol_ev (ev_gt rfl rfl) rfl ?_ | refine ol_ev (ev_lt rfl rfl) rfl ?_ | refine ol_ev (ev_eq rfl rfl) rfl ?_ | refine ol_ev (ev_len_s rfl) rfl ?_ | refine ol_ev (ev_len_str rfl) rfl ?_ | refine ol_ev (ev_pick_t rfl rfl) rfl ?_ | refine ol_ev (ev_pick_f rfl rfl) rfl ?_ | refine ol_ev (ev_ge rfl rfl) rfl ?_ | refine ol_ev (ev_le rfl rfl) rfl ?_ | refine ol_ev (ev_ne rfl rfl) rfl ?_ | refine ol_ev (ev_not rfl) rfl ?_ | refine ol_ev (ev_eqnil_i rfl) rfl ?_ | refine ol_ev (ev_eqnil_n rfl) rfl ?_ | refine ol_ev (ev_nenil_i rfl) rfl ?_ | refine ol_ev (ev_nenil_n rfl) rfl ?_ | refine ol_ev (ev_nenil_s rfl) rfl ?_ | refine ol_ev (ev_eqnil_s rfl) rfl ?_ | refine ol_ev (ev_min rfl rfl) rfl ?_ | refine ol_ev (ev_max rfl rfl) rfl ?_ | refine ol_ev (ev_mkiface rfl) rfl ?_ | refine ol_ev (ev_nilI rfl) rfl ?_ | refine ol_ev (ev_nilF rfl) rfl ?_ | refine ol_ev (ev_cap_s rfl) rfl ?_ | refine ol_ev (ev_eq_str rfl rfl) rfl ?_ | refine ol_ev (ev_ne_str rfl rfl) rfl ?_ | refine ol_ev (ev_mkfunc0) rfl ?_ | refine ol_ev (ev_mkfunc1 rfl) rfl ?_ | refine ol_ev (ev_mkfunc2 rfl rfl) rfl ?_ | refine ol_ev (ev_mkfunc3 rfl rfl rfl) rfl ?_ | refine ol_ev (ev_load rfl m4 rfl) rfl ?_ | refine ol_ev (ev_load rfl m5 rfl) rfl ?_ | refine ol_store rfl rfl rfl u0 rfl rfl ?_ | refine ol_store rfl rfl rfl u1 rfl rfl ?_ | refine ol_store rfl rfl rfl u2 rfl rfl ?_ | refine ol_store rfl rfl rfl u3 rfl rfl ?_ | refine ol_store rfl rfl rfl u4 rfl rfl ?_ | refine ol_store rfl rfl rfl u5 rfl rfl ?_ | refine ol_on rfl rfl rfl ?_ | refine ol_off rfl rfl rfl rfl rfl ?_ | refine ol_offu rfl rfl rfl rfl ?_ | (refine ol_ev (ev_quo rfl rfl ?_ ?_ ?_) rfl ?_; omega; omega; (constructor <;> omega)) | (refine ol_ev (ev_add rfl rfl ?_) rfl ?_; (constructor <;> omega)) | (refine ol_ev (ev_sub rfl rfl ?_) rfl ?_; (constructor <;> omega)))
            refine cw_still mixed (by kernel_rfl) ?_
            repeat (first | refine sl_ev (ev_move rfl) rfl ?_ | refine sl_ev (ev_nilP rfl) rfl ?_ | refine sl_ev (ev_fld rfl) rfl ?_ | refine sl_ev (ev_load rfl m0 rfl) rfl ?_ | refine sl_ev (ev_load rfl m1 rfl) rfl ?_ | refine sl_ev (ev_load rfl m2 rfl) rfl ?_ | refine sl_ev (ev_load rfl m3 rfl) rfl ?_ | refine sl_ev (ev_assign rfl) rfl ?_ | refine sl_nil ?_ | refine sl_ev (ev_extract rfl rfl) rfl ?_ | refine sl_ev (ev_gt rfl rfl) rfl ?_ | refine sl_ev (ev_lt rfl rfl) rfl ?_ | refine sl_ev (ev_eq rfl rfl) rfl ?_ | refine sl_ev (ev_len_s rfl) rfl ?_ | refine sl_ev (ev_len_str rfl) rfl ?_ | refine sl_ev (ev_pick_t rfl rfl) rfl ?_ | refine sl_ev (ev_pick_f rfl rfl) rfl ?_ | refine sl_ev (ev_ge rfl rfl) rfl ?_ | refine sl_ev (ev_le rfl rfl) rfl ?_ | refine sl_ev (ev_ne rfl rfl) rfl ?_ | refine sl_ev (ev_not rfl) rfl ?_ | refine sl_ev (ev_eqnil_i rfl) rfl ?_ | refine sl_ev (ev_eqnil_n rfl) rfl ?_ | refine sl_ev (ev_nenil_i rfl) rfl ?_ | refine sl_ev (ev_nenil_n rfl) rfl ?_ | refine sl_ev (ev_nenil_s rfl) rfl ?_ | refine sl_ev (ev_eqnil_s rfl) rfl ?_ | refine sl_ev (ev_min rfl rfl) rfl ?_ | refine sl_ev (ev_max rfl rfl) rfl ?_ | refine sl_ev (ev_mkiface rfl) rfl ?_ | refine sl_ev (ev_nilI rfl) rfl ?_ | refine sl_ev (ev_nilF rfl) rfl ?_ | refine sl_ev (ev_cap_s rfl) rfl ?_ | refine sl_ev (ev_eq_str rfl rfl) rfl ?_ | refine sl_ev (ev_ne_str rfl rfl) rfl ?_ | refine sl_ev (ev_mkfunc0) rfl ?_ | refine sl_ev (ev_mkfunc1 rfl) rfl ?_ | refine sl_ev (ev_mkfunc2 rfl rfl) rfl ?_ | refine sl_ev (ev_mkfunc3 rfl rfl rfl) rfl ?_ | refine sl_ev (ev_load rfl m4 rfl) rfl ?_ | refine sl_ev (ev_load rfl m5 rfl) rfl ?_ | refine sl_on rfl rfl rfl ?_ | refine sl_off rfl rfl rfl rfl rfl ?_ | refine sl_offu rfl rfl rfl rfl ?_ | (refine sl_ev (ev_quo rfl rfl ?_ ?_ ?_) rfl ?_; omega; omega; (constructor <;> omega)) | (refine sl_ev (ev_add rfl rfl ?_) rfl ?_; (constructor <;> omega)) | (refine sl_ev (ev_sub rfl rfl ?_) rfl ?_; (constructor <;> omega)))
            (first | refine sl_ev (ev_loadW rfl hE.c0) rfl ?_ | refine sl_ev (ev_loadW rfl hE.c1) rfl ?_ | refine sl_ev (ev_loadW rfl hE.c2) rfl ?_ | refine sl_ev (ev_loadW rfl hE.c3) rfl ?_ | refine sl_ev (ev_loadW rfl hE.c4) rfl ?_ | refine sl_ev (ev_loadW rfl hE.c5) rfl ?_ | refine sl_ev (ev_loadW rfl hE.c6) rfl ?_ | refine sl_ev (ev_loadW rfl hE.c7) rfl ?_ | refine sl_ev (ev_loadW rfl hE.c8) rfl ?_)
            repeat (first | refine sl_ev (ev_move rfl) rfl ?_ | refine sl_ev (ev_nilP rfl) rfl ?_ | refine sl_ev (ev_fld rfl) rfl ?_ | refine sl_ev (ev_load rfl m0 rfl) rfl ?_ | refine sl_ev (ev_load rfl m1 rfl) rfl ?_ | refine sl_ev (ev_load rfl m2 rfl) rfl ?_ | refine sl_ev (ev_load rfl m3 rfl) rfl ?_ | refine sl_ev (ev_assign rfl) rfl ?_ | refine sl_nil ?_ | refine sl_ev (ev_extract rfl rfl) rfl ?_ | refine sl_ev (ev_gt rfl rfl) rfl ?_ | refine sl_ev (ev_lt rfl rfl) rfl ?_ | refine sl_ev (ev_eq rfl rfl) rfl ?_ | refine sl_ev (ev_len_s rfl) rfl ?_ | refine sl_ev (ev_len_str rfl) rfl ?_ | refine sl_ev (ev_pick_t rfl rfl) rfl ?_ | refine sl_ev (ev_pick_f rfl rfl) rfl ?_ | refine sl_ev (ev_ge rfl rfl) rfl ?_ | refine sl_ev (ev_le rfl rfl) rfl ?_ | refine sl_ev (ev_ne rfl rfl) rfl ?_ | refine sl_ev (ev_not rfl) rfl ?_ | refine sl_ev (ev_eqnil_i rfl) rfl ?_ | refine sl_ev (ev_eqnil_n rfl) rfl ?_ | refine sl_ev (ev_nenil_i rfl) rfl ?_ | refine sl_ev (ev_nenil_n rfl) rfl ?_ | refine sl_ev (ev_nenil_s rfl) rfl ?_ | refine sl_ev (ev_eqnil_s rfl) rfl ?_ | refine sl_ev (ev_min rfl rfl) rfl ?_ | refine sl_ev (ev_max rfl rfl) rfl ?_ | refine sl_ev (ev_mkiface rfl) rfl ?_ | refine sl_ev (ev_nilI rfl) rfl ?_ | refine sl_ev (ev_nilF rfl) rfl ?_ | refine sl_ev (ev_cap_s rfl) rfl ?_ | refine sl_ev (ev_eq_str rfl rfl) rfl ?_ | refine sl_ev (ev_ne_str rfl rfl) rfl ?_ | refine sl_ev (ev_mkfunc0) rfl ?_ | refine sl_ev (ev_mkfunc1 rfl) rfl ?_ | refine sl_ev (ev_mkfunc2 rfl rfl) rfl ?_ | refine sl_ev (ev_mkfunc3 rfl rfl rfl) rfl ?_ | refine sl_ev (ev_load rfl m4 rfl) rfl ?_ | refine sl_ev (ev_load rfl m5 rfl) rfl ?_ | refine sl_on rfl rfl rfl ?_ | refine sl_off rfl rfl rfl rfl rfl ?_ | refine sl_offu rfl rfl rfl rfl ?_ | (refine sl_ev (ev_quo rfl rfl ?_ ?_ ?_) rfl ?_; omega; omega; (constructor <;> omega)) | (refine sl_ev (ev_add rfl rfl ?_) rfl ?_; (constructor <;> omega)) | (refine sl_ev (ev_sub rfl rfl ?_) rfl ?_; (constructor <;> omega)))
            repeat (first | refine ol_ev (ev_move rfl) rfl ?_ | refine ol_ev (ev_nilP rfl) rfl ?_ | refine ol_ev (ev_fld rfl) rfl ?_ | refine ol_ev (ev_load rfl m0 rfl) rfl ?_ | refine ol_ev (ev_load rfl m1 rfl) rfl ?_ | refine ol_ev (ev_load rfl m2 rfl) rfl ?_ | refine ol_ev (ev_load rfl m3 rfl) rfl ?_ | refine ol_ev (ev_assign rfl) rfl ?_ | refine cw_seq ?_ | refine cw_region ?_ | refine ol_nil ?_ | refine cw_ret ?_ | refine cw_skip ?_ | refine cw_block ?_ | refine cw_exit ?_ | refine cw_if_t rfl ?_ | refine cw_if_f rfl ?_ | refine ol_ev (ev_extract rfl rfl) rfl ?_ | refine ol_ev (ev_gt rfl rfl) rfl ?_ | refine ol_ev (ev_lt rfl rfl) rfl ?_ | refine ol_ev (ev_eq rfl rfl) rfl ?_ | refine ol_ev (ev_len_s rfl) rfl ?_ | refine ol_ev (ev_len_str rfl) rfl ?_ | refine ol_ev (ev_pick_t rfl rfl) rfl ?_ | refine ol_ev (ev_pick_f rfl rfl) rfl ?_ | refine ol_ev (ev_ge rfl rfl) rfl ?_ | refine ol_ev (ev_le rfl rfl) rfl ?_ | refine ol_ev (ev_ne rfl rfl) rfl ?_ | refine ol_ev (ev_not rfl) rfl ?_ | refine ol_ev (ev_eqnil_i rfl) rfl ?_ | refine ol_ev (ev_eqnil_n rfl) rfl ?_ | refine ol_ev (ev_nenil_i rfl) rfl ?_ | refine ol_ev (ev_nenil_n rfl) rfl ?_ | refine ol_ev (ev_nenil_s rfl) rfl ?_ | refine ol_ev (ev_eqnil_s rfl) rfl ?_ | refine ol_ev (ev_min rfl rfl) rfl ?_ | refine ol_ev (ev_max rfl rfl) rfl ?_ | refine ol_ev (ev_mkiface rfl) rfl ?_ | refine ol_ev (ev_nilI rfl) rfl ?_ | refine ol_ev (ev_nilF rfl) rfl ?_ | refine ol_ev (ev_cap_s rfl) rfl ?_ | refine ol_ev (ev_eq_str rfl rfl) rfl ?_ | refine ol_ev (ev_ne_str rfl rfl) rfl ?_ | refine ol_ev (ev_mkfunc0) rfl ?_ | refine ol_ev (ev_mkfunc1 rfl) rfl ?_ | refine ol_ev (ev_mkfunc2 rfl rfl) rfl ?_ | refine ol_ev (ev_mkfunc3 rfl rfl rfl) rfl ?_ | refine ol_ev (ev_load rfl m4 rfl) rfl ?_ | refine ol_ev (ev_load rfl m5 rfl) rfl ?_ | refine ol_store rfl rfl rfl u0 rfl rfl ?_ | refine ol_store rfl rfl rfl u1 rfl rfl ?_ | refine ol_store rfl rfl rfl u2 rfl rfl ?_ | refine ol_store rfl rfl rfl u3 rfl rfl ?_ | refine ol_store rfl rfl rfl u4 rfl rfl ?_ | refine ol_store rfl rfl rfl u5 rfl rfl ?_ | refine ol_on rfl rfl rfl ?_ | refine ol_off rfl rfl rfl rfl rfl ?_ | refine ol_offu rfl rfl rfl rfl ?_ | (refine ol_ev (ev_quo rfl rfl ?_ ?_ ?_) rfl ?_; omega; omega; (constructor <;> omega)) | (refine ol_ev (ev_add rfl rfl ?_) rfl ?_; (constructor <;> omega)) | (refine ol_ev (ev_sub rfl rfl ?_) rfl ?_; (constructor <;> omega)))
            exact ⟨_, res2 rfl rfl rfl, rfl, rfl⟩
      · rw [decide_eq_false h2]
        (iterate 6 (refine sl_off rfl rfl rfl rfl rfl ?_)); refine sl_on rfl rfl rfl ?_; refine sl_ev (ev_pick_f rfl rfl) rfl ?_; refine sl_ev (ev_pick_f rfl rfl) rfl ?_; refine sl_nil ?_
        rw [if_neg (by intro h; rcases h with h | h <;> omega)]
        refine cw_if_f rfl ?_; refine cw_skip ?_; refine cw_seq ?_; refine cw_seq ?_; refine cw_region ?_; refine ol_ev (ev_move rfl) rfl ?_; refine ol_ev (ev_nilP rfl) rfl ?_; refine ol_ev (ev_fld rfl) rfl ?_; refine ol_ev (ev_fld rfl) rfl ?_; refine ol_ev (ev_load rfl m0 rfl) rfl ?_; refine ol_nil ?_
        cases brk
        all_goals
          repeat (first | refine ol_ev (ev_move rfl) rfl ?_ | refine ol_ev (ev_nilP rfl) rfl ?_ | refine ol_ev (ev_fld rfl) rfl ?_ | refine ol_ev (ev_load rfl m0 rfl) rfl ?_ | refine ol_ev (ev_load rfl m1 rfl) rfl ?_ | refine ol_ev (ev_load rfl m2 rfl) rfl ?_ | refine ol_ev (ev_load rfl m3 rfl) rfl ?_ | refine ol_ev (ev_assign rfl) rfl ?_ | refine cw_seq ?_ | refine cw_region ?_ | refine ol_nil ?_ | refine cw_ret ?_ | refine cw_skip ?_ | refine cw_block ?_ | refine cw_exit ?_ | refine cw_if_t rfl ?_ | refine cw_if_f rfl ?_ | refine ol_ev (ev_extract rfl rfl) rfl ?_ | refine ol_ev (ev_gt rfl rfl) rfl ?_ | refine ol_ev (ev_lt rfl rfl) rfl ?_ | refine ol_ev (ev_eq rfl rfl) rfl ?_ | refine ol_ev (ev_len_s rfl) rfl ?_ | refine ol_ev (ev_len_str rfl) rfl ?_ | refine ol_ev (ev_pick_t rfl rfl) rfl ?_ | refine ol_ev (ev_pick_f rfl rfl) rfl ?_ | refine ol_ev (ev_ge rfl rfl) rfl ?_ | refine ol_ev (ev_le rfl rfl) rfl ?_ | refine ol_ev (ev_ne rfl rfl) rfl ?_ | refine ol_ev (ev_not rfl) rfl ?_ | refine ol_ev (ev_eqnil_i rfl) rfl ?_ | refine ol_ev (ev_eqnil_n rfl) rfl ?_ | refine ol_ev (ev_nenil_i rfl) rfl ?_ | refine ol_ev (ev_nenil_n rfl) rfl ?_ | refine ol_ev (ev_nenil_s rfl) rfl ?_ | refine ol_ev (ev_eqnil_s rfl) rfl ?_ | refine ol_ev (ev_min rfl rfl) rfl ?_ | refine ol_ev (ev_max rfl rfl) rfl ?_ | refine ol_ev (ev_mkiface rfl) rfl ?_ | refine ol_ev (ev_nilI rfl) rfl ?_ | refine ol_ev (ev_nilF rfl) rfl ?_ | refine ol_ev (ev_cap_s rfl) rfl ?_ | refine ol_ev (ev_eq_str rfl rfl) rfl ?_ | refine ol_ev (ev_ne_str rfl rfl) rfl ?_ | refine ol_ev (ev_mkfunc0) rfl ?_ | refine ol_ev (ev_mkfunc1 rfl) rfl ?_ | refine ol_ev (ev_mkfunc2 rfl rfl) rfl ?_ | refine ol_ev (ev_mkfunc3 rfl rfl rfl) rfl ?_ | refine ol_ev (ev_load rfl m4 rfl) rfl ?_ | refine ol_ev (ev_load rfl m5 rfl) rfl ?_ | refine ol_store rfl rfl rfl u0 rfl rfl ?_ | refine ol_store rfl rfl rfl u1 rfl rfl ?_ | refine ol_store rfl rfl rfl u2 rfl rfl ?_ | refine ol_store rfl rfl rfl u3 rfl rfl ?_ | refine ol_store rfl rfl rfl u4 rfl rfl ?_ | refine ol_store rfl rfl rfl u5 rfl rfl ?_ | refine ol_on rfl rfl rfl ?_ | refine ol_off rfl rfl rfl rfl rfl ?_ | refine ol_offu rfl rfl rfl rfl ?_ | (refine ol_ev (ev_quo rfl rfl ?_ ?_ ?_) rfl ?_; omega; omega; (constructor <;> omega)) | (refine ol_ev (ev_add rfl rfl ?_) rfl ?_; (constructor <;> omega)) | (refine ol_ev (ev_sub rfl rfl ?_) rfl ?_; (constructor <;> omega)))
          refine cw_still mixed (by kernel_rfl) ?_
          repeat (first | refine sl_ev (ev_move rfl) rfl ?_ | refine sl_ev (ev_nilP rfl) rfl ?_ | refine sl_ev (ev_fld rfl) rfl ?_ | refine sl_ev (ev_load rfl m0 rfl) rfl ?_ | refine sl_ev (ev_load rfl m1 rfl) rfl ?_ | refine sl_ev (ev_load rfl m2 rfl) rfl ?_ | refine sl_ev (ev_load rfl m3 rfl) rfl ?_ | refine sl_ev (ev_assign rfl) rfl ?_ | refine sl_nil ?_ | refine sl_ev (ev_extract rfl rfl) rfl ?_ | refine sl_ev (ev_gt rfl rfl) rfl ?_ | refine sl_ev (ev_lt rfl rfl) rfl ?_ | refine sl_ev (ev_eq rfl rfl) rfl ?_ | refine sl_ev (ev_len_s rfl) rfl ?_ | refine sl_ev (ev_len_str rfl) rfl ?_ | refine sl_ev (ev_pick_t rfl rfl) rfl ?_ | refine sl_ev (ev_pick_f rfl rfl) rfl ?_ | refine sl_ev (ev_ge rfl rfl) rfl ?_ | refine sl_ev (ev_le rfl rfl) rfl ?_ | refine sl_ev (ev_ne rfl rfl) rfl ?_ | refine sl_ev (ev_not rfl) rfl ?_ | refine sl_ev (ev_eqnil_i rfl) rfl ?_ | refine sl_ev (ev_eqnil_n rfl) rfl ?_ | refine sl_ev (ev_nenil_i rfl) rfl ?_ | refine sl_ev (ev_nenil_n rfl) rfl ?_ | refine sl_ev (ev_nenil_s rfl) rfl ?_ | refine sl_ev (ev_eqnil_s rfl) rfl ?_ | refine sl_ev (ev_min rfl rfl) rfl ?_ | refine sl_ev (ev_max rfl rfl) rfl ?_ | refine sl_ev (ev_mkiface rfl) rfl ?_ | refine sl_ev (ev_nilI rfl) rfl ?_ | refine sl_ev (ev_nilF rfl) rfl ?_ | refine sl_ev (ev_cap_s rfl) rfl ?_ | refine sl_ev (ev_eq_str rfl rfl) rfl ?_ | refine sl_ev (ev_ne_str rfl rfl) rfl ?_ | refine sl_ev (ev_mkfunc0) rfl ?_ | refine sl_ev (ev_mkfunc1 rfl) rfl ?_ | refine sl_ev (ev_mkfunc2 rfl rfl) rfl ?_ | refine sl_ev (ev_mkfunc3 rfl rfl rfl) rfl ?_ | refine sl_ev (ev_load rfl m4 rfl) rfl ?_ | refine sl_ev (ev_load rfl m5 rfl) rfl ?_ | refine sl_on rfl rfl rfl ?_ | refine sl_off rfl rfl rfl rfl rfl ?_ | refine sl_offu rfl rfl rfl rfl ?_ | (refine sl_ev (ev_quo rfl rfl ?_ ?_ ?_) rfl ?_; omega; omega; (constructor <;> omega)) | (refine sl_ev (ev_add rfl rfl ?_) rfl ?_; (constructor <;> omega)) | (refine sl_ev (ev_sub rfl rfl ?_) rfl ?_; (constructor <;> omega)))
          (first | refine sl_ev (ev_loadW rfl hE.c0) rfl ?_ | refine sl_ev (ev_loadW rfl hE.c1) rfl ?_ | refine sl_ev (ev_loadW rfl hE.c2) rfl ?_ | refine sl_ev (ev_loadW rfl hE.c3) rfl ?_ | refine sl_ev (ev_loadW rfl hE.c4) rfl ?_ | refine sl_ev (ev_loadW rfl hE.c5) rfl ?_ | refine sl_ev (ev_loadW rfl hE.c6) rfl ?_ | refine sl_ev (ev_loadW rfl hE.c7) rfl ?_ | refine sl_ev (ev_loadW rfl hE.c8) rfl ?_)
          repeat (first | refine sl_ev (ev_move rfl) rfl ?_ | refine sl_ev (ev_nilP rfl) rfl ?_ | refine sl_ev (ev_fld rfl) rfl ?_ | refine sl_ev (ev_load rfl m0 rfl) rfl ?_ | refine sl_ev (ev_load rfl m1 rfl) rfl ?_ | refine sl_ev (ev_load rfl m2 rfl) rfl ?_ | refine sl_ev (ev_load rfl m3 rfl) rfl ?_ | refine sl_ev (ev_assign rfl) rfl ?_ | refine sl_nil ?_ | refine sl_ev (ev_extract rfl rfl) rfl ?_ | refine sl_ev (ev_gt rfl rfl) rfl ?_ | refine sl_ev (ev_lt rfl rfl) rfl ?_ | refine sl_ev (ev_eq rfl rfl) rfl ?_ | refine sl_ev (ev_len_s rfl) rfl ?_ | refine sl_ev (ev_len_str rfl) rfl ?_ | refine sl_ev (ev_pick_t rfl rfl) rfl ?_ | refine sl_ev (ev_pick_f rfl rfl) rfl ?_ | refine sl_ev (ev_ge rfl rfl) rfl ?_ | refine sl_ev (ev_le rfl rfl) rfl ?_ | refine sl_ev (ev_ne rfl rfl) rfl ?_ | refine sl_ev (ev_not rfl) rfl ?_ | refine sl_ev (ev_eqnil_i rfl) rfl ?_ | refine sl_ev (ev_eqnil_n rfl) rfl ?_ | refine sl_ev (ev_nenil_i rfl) rfl ?_ | refine sl_ev (ev_nenil_n rfl) rfl ?_ | refine sl_ev (ev_nenil_s rfl) rfl ?_ | refine sl_ev (ev_eqnil_s rfl) rfl ?_ | refine sl_ev (ev_min rfl rfl) rfl ?_ | refine sl_ev (ev_max rfl rfl) rfl ?_ | refine sl_ev (ev_mkiface rfl) rfl ?_ | refine sl_ev (ev_nilI rfl) rfl ?_ | refine sl_ev (ev_nilF rfl) rfl ?_ | refine sl_ev (ev_cap_s rfl) rfl ?_ | refine sl_ev (ev_eq_str rfl rfl) rfl ?_ | refine sl_ev (ev_ne_str rfl rfl) rfl ?_ | refine sl_ev (ev_mkfunc0) rfl ?_ | refine sl_ev (ev_mkfunc1 rfl) rfl ?_ | refine sl_ev (ev_mkfunc2 rfl rfl) rfl ?_ | refine sl_ev (ev_mkfunc3 rfl rfl rfl) rfl ?_ | refine sl_ev (ev_load rfl m4 rfl) rfl ?_ | refine sl_ev (ev_load rfl m5 rfl) rfl ?_ | refine sl_on rfl rfl rfl ?_ | refine sl_off rfl rfl rfl rfl rfl ?_ | refine sl_offu rfl rfl rfl rfl ?_ | (refine sl_ev (ev_quo rfl rfl ?_ ?_ ?_) rfl ?_; omega; omega; (constructor <;> omega)) | (refine sl_ev (ev_add rfl rfl ?_) rfl ?_; (constructor <;> omega)) | (refine sl_ev (ev_sub rfl rfl ?_) rfl ?_; (constructor <;> omega)))
          repeat (first | refine ol_ev (ev_move rfl) rfl ?_ | refine ol_ev (ev_nilP rfl) rfl ?_ | refine ol_ev (ev_fld rfl) rfl ?_ | refine ol_ev (ev_load rfl m0 rfl) rfl ?_ | refine ol_ev (ev_load rfl m1 rfl) rfl ?_ | refine ol_ev (ev_load rfl m2 rfl) rfl ?_ | refine ol_ev (ev_load rfl m3 rfl) rfl ?_ | refine ol_ev (ev_assign rfl) rfl ?_ | refine cw_seq ?_ | refine cw_region ?_ | refine ol_nil ?_ | refine cw_ret ?_ | refine cw_skip ?_ | refine cw_block ?_ | refine cw_exit ?_ | refine cw_if_t rfl ?_ | refine cw_if_f rfl ?_ | refine ol_ev (ev_extract rfl rfl) rfl ?_ | refine ol_ev (ev_gt rfl rfl) rfl ?_ | refine ol_ev (ev_lt rfl rfl) rfl ?_ | refine ol_ev (ev_eq rfl rfl) rfl ?_ | refine ol_ev (ev_len_s rfl) rfl ?_ | refine ol_ev (ev_len_str rfl) rfl ?_ | refine ol_ev (ev_pick_t rfl rfl) rfl ?_ | refine ol_ev (ev_pick_f rfl rfl) rfl ?_ | refine ol_ev (ev_ge rfl rfl) rfl ?_ | refine ol_ev (ev_le rfl rfl) rfl ?_ | refine ol_ev (ev_ne rfl rfl) rfl ?_ | refine ol_ev (ev_not rfl) rfl ?_ | refine ol_ev (ev_eqnil_i rfl) rfl ?_ | refine ol_ev (ev_eqnil_n rfl) rfl ?_ | refine ol_ev (ev_nenil_i rfl) rfl ?_ | refine ol_ev (ev_nenil_n rfl) rfl ?_ | refine ol_ev (ev_nenil_s rfl) rfl ?_ | refine ol_ev (ev_eqnil_s rfl) rfl ?_ | refine ol_ev (ev_min rfl rfl) rfl ?_ | refine ol_ev (ev_max rfl rfl) rfl ?_ | refine ol_ev (ev_mkiface rfl) rfl ?_ | refine ol_ev (ev_nilI rfl) rfl ?_ | refine ol_ev (ev_nilF rfl) rfl ?_ | refine ol_ev (ev_cap_s rfl) rfl ?_ | refine ol_ev (ev_eq_str rfl rfl) rfl ?_ | refine ol_ev (ev_ne_str rfl rfl) rfl ?_ | refine ol_ev (ev_mkfunc0) rfl ?_ | refine ol_ev (ev_mkfunc1 rfl) rfl ?_ | refine ol_ev (ev_mkfunc2 rfl rfl) rfl ?_ | refine ol_ev (ev_mkfunc3 rfl rfl rfl) rfl ?_ | refine ol_ev (ev_load rfl m4 rfl) rfl ?_ | refine ol_ev (ev_load rfl m5 rfl) rfl ?_ | refine ol_store rfl rfl rfl u0 rfl rfl ?_ | refine ol_store rfl rfl rfl u1 rfl rfl ?_ | refine ol_store rfl rfl rfl u2 rfl rfl ?_ | refine ol_store rfl rfl rfl u3 rfl rfl ?_ | refine ol_store rfl rfl rfl u4 rfl rfl ?_ | refine ol_store rfl rfl rfl u5 rfl rfl ?_ | refine ol_on rfl rfl rfl ?_ | refine ol_off rfl rfl rfl rfl rfl ?_ | refine ol_offu rfl rfl rfl rfl ?_ | (refine ol_ev (ev_quo rfl rfl ?_ ?_ ?_) rfl ?_; omega; omega; (constructor <;> omega)) | (refine ol_ev (ev_add rfl rfl ?_) rfl ?_; (constructor <;> omega)) | (refine ol_ev (ev_sub rfl rfl ?_) rfl ?_; (constructor <;> omega)))
          exact ⟨_, res2 rfl rfl rfl, rfl, rfl⟩
end Go.HE
