/- The tokens of ScanBytes are the bytes of the text: the walk. Conditions: the errors are as start-up lays them; the pieces lie in old memory; the text has fewer than 2 to the 40th bytes. -/
import Derived.Test.YtkaomlklllinlaaDoorHelp
import Derived.Test.YtkaomlklllinlaaDoorStep
import Derived.Test.YtkaomlklllinlaaDoorAll
/- The bytes of a text as a list, by a contract. Condition: the text has fewer than 2 to the 40th bytes. -/
set_option maxRecDepth 100000
set_option maxHeartbeats 4000000
namespace Go.HE
open Go.RowKit Go.Proofs

section
variable {W : World}
def singles (s : List UInt8) : List (List UInt8) := s.map fun b => [b]

theorem singles_ct (text : List UInt8) (hl : text.length ≤ 1099511627776) :
    Ct Tryd.prog W 36 #[str text] [] (fun v H' => ∃ u, v = .agg #[u, .int .i64 0] ∧ StrsAt H' u (singles text)) := by
  refine ct_of_cw (vs := [_]) Tryd.func36 rfl rfl fun w1 => ?_
  refine cw_seq ?_; refine cw_region ?_
  refine ol_alloc rfl fun r0 => ?_
  refine ol_nil ?_; refine cw_seq ?_; refine cw_region ?_
  refine ol_slice0 rfl fun ob => ?_
  refine ol_ev (ev_build1 rfl rfl) rfl ?_
  refine ol_alloc rfl fun b3 => ?_
  refine ol_storeS (o := ⟨[.slice none 0 0, .int .i64 0], 41, (0, 0)⟩) (cs := [.slice (some ⟨ob, 0, none⟩) 0 0, .int .i64 0]) rfl rfl rfl (by simp [Value.oneCell']) u0 rfl rfl ?_
  refine ol_nil ?_; refine cw_seq ?_; refine cw_seq ?_; refine cw_region ?_; refine ol_ev (ev_assign rfl) rfl ?_; refine ol_nil ?_; refine cw_block ?_
  refine cw_loop (σ := Nat × Nat × List Value) (fun g => [(0, str text), (2, .pointer (some ⟨r0, 0, none⟩)), (3, .pointer (some ⟨b3, 0, none⟩)), (4, .int .i64 (g.1 : Int))])
    (fun g => [(b3, ⟨[.slice (some ⟨g.2.1, 0, none⟩) g.1 (g.1 + g.2.2.length), .int .i64 0], 41, (0, 0)⟩), (g.2.1, strO (singles (text.take g.1)) g.2.2), (r0, ⟨[.slice none 0 0, .int .i64 0], 41, (0, 0)⟩)])
    (fun g => g.1 ≤ text.length) (fun g => text.length - g.1) (0, ob, []) (Nat.zero_le _) (fun a ha => ha.weak ⟨rfl, rfl, rfl, rfl, trivial⟩) rfl ?_
  rintro ⟨i, ob, sp⟩ hi
  simp only at hi ⊢
  refine cw_seq ?_; refine cw_seq ?_; refine cw_region ?_; refine ol_ev (ev_move rfl) rfl ?_; refine ol_ev (ev_move rfl) rfl ?_; refine ol_ev (ev_len_str rfl) rfl ?_; refine ol_ev (ev_lt rfl rfl) rfl ?_; refine ol_nil ?_
  refine cw_ifd rfl (fun h2 => ?_) (fun h2 => ?_)
  · have hx : i < text.length := by omega
    refine cw_skip ?_; refine cw_seq ?_; refine cw_block ?_
    refine cw_floatx [(0, false), (1, false), (2, false), (3, false), (4, false), (5, false), (6, false), (7, true), (8, true), (9, false)] 10 [(b3, ⟨[.slice (some ⟨ob, 0, none⟩) i (i + sp.length), .int .i64 0], 41, (0, 0)⟩)] mixed (by kernel_rfl) rfl (List.Sublist.cons_cons _ (List.nil_sublist _)) (fun _ _ _ h => h) (fun _ _ h => h) ?_
    refine fl_ev rfl (ev_fld rfl) rfl ?_; refine fl_ev rfl (ev_load rfl m0 rfl) rfl ?_; (iterate 3 (refine fl_ev rfl (ev_move rfl) rfl ?_)); (refine fl_ev rfl (ev_add rfl rfl ?_) rfl ?_; (constructor <;> omega))
    refine fl_ev rfl (ev_slice_str rfl rfl rfl (by omega) (by omega) (by omega)) rfl ?_
    skip
    have hsub : sub text ((i : Int)).toNat ((i : Int) + 1).toNat = [text[i]] := by
      have e1 : ((i : Int)).toNat = i := by omega
      have e2 : ((i : Int) + 1).toNat = i + 1 := by omega
      rw [e1, e2]
      unfold sub
      rw [List.drop_eq_getElem_cons hx, Nat.add_sub_cancel_left]
      rfl
    rw [hsub]
    refine fl_x rfl ?_
    refine ol_slice1 rfl rfl rfl rfl fun b1 => ?_
    refine ol_nil ⟨sub_cons m1 sub_nil, ?_⟩
    refine fl_x rfl ?_
    refine ol_append (xs := (singles (text.take i)).map str) (sp := sp) (ys := [str [text[i]]]) rfl rfl (fun _ _ => r2) m0 ?_ ?_ rfl rfl ?_ rfl ?_ ?_ rfl ?_
    · simp [singles]; omega
    · simp [singles]; omega
    · intro u hu
      simp only [List.mem_singleton] at hu
      subst hu; rfl
    · omega
    · omega
    intro b' sp'
    refine ol_nil ⟨sub_cons m1 sub_nil, ?_⟩
    refine fl_ev rfl (ev_fld rfl) rfl ?_
    refine fl_nil ?_
    refine OL.less (List.sublist_cons_self _ _) ?_
    refine ol_store rfl rfl rfl u0 rfl rfl ?_; refine ol_nil ?_; refine cw_region ?_; refine ol_ev (ev_move rfl) rfl ?_; (refine ol_ev (ev_add rfl rfl ?_) rfl ?_; (constructor <;> omega)); refine ol_ev (ev_assign rfl) rfl ?_; refine ol_nil ?_
    refine ⟨(i + 1, b', sp'), hx, ⟨rfl, rfl, rfl, ?_, trivial⟩, ?_, by show text.length - (i + 1) < text.length - i; omega⟩
    · rfl
    · have e1 : ((singles (text.take i)).map str ++ [str [text[i]]]).length = i + 1 := by simp [singles]; omega
      have e2 : (singles (text.take i)).map str ++ [str [text[i]]] = (singles (text.take (i + 1))).map str := by
        rw [List.take_add_one, List.getElem?_eq_getElem hx]
        show _ = (((text.take i) ++ [text[i]]).map fun b => [b]).map str
        rw [List.map_append, List.map_append]; rfl
      rw [e1, e2]; rfl
  · have hend : i = text.length := by omega
    subst hend
    rw [List.take_length]
    refine cw_exit ?_; refine cw_seq ?_; refine cw_region ?_
    refine ol_ev (ev_loadS (cs := [.slice (some ⟨ob, 0, none⟩) text.length (text.length + sp.length), .int .i64 0]) rfl rfl m0 rfl) rfl ?_
    refine ol_storeS (o := ⟨[.slice none 0 0, .int .i64 0], 41, (0, 0)⟩) (cs := [.slice (some ⟨ob, 0, none⟩) text.length (text.length + sp.length), .int .i64 0]) rfl rfl rfl (by simp [Value.oneCell']) u2 rfl rfl ?_
    refine ol_nil ?_; refine cw_ret ?_
    refine ⟨_, resC (cs := [.slice (some ⟨ob, 0, none⟩) text.length (text.length + sp.length), .int .i64 0]) rfl rfl rfl m2 rfl, _, rfl, ob, text.length + sp.length, sp, ?_, m1, ?_⟩ <;> simp [singles]
end
end Go.HE

set_option maxRecDepth 100000
set_option maxHeartbeats 4000000
namespace Go.HE
open Go.RowKit Go.Proofs

def bstep : Unit → List UInt8 → Bool → Ans Unit := fun _ d _ => if d = [] then ⟨0, none, none, ()⟩ else ⟨1, some (d.take 1), none, ()⟩
def bq : Unit → List UInt8 → Oc Unit → Prop
  | _, [], o => o = .stop
  | _, b :: r, o => o = .tok [b] () r

theorem bgood {L : Nat} (h : 0 < L) : Good bstep bq L := by
  refine ⟨h, fun s data tl o eof hq he hd _ => ?_⟩
  cases data with
  | nil =>
    have hd' : eof = true := by simpa using hd
    have := he hd'
    subst this hd'
    have ho : o = .stop := hq
    subst ho
    simp [bstep]
  | cons b d =>
    have ho : o = .tok [b] () (d ++ tl) := hq
    subst ho
    simp [bstep]
    omega

theorem brun (text : List UInt8) : Run bq () text (singles text) none := by
  induction text with
  | nil => exact .stop rfl
  | cons b r ih => exact .tok (rfl : bq () (b :: r) (.tok [b] () r)) ih

section
variable {W : World} {E : Nat → Addr}
theorem bytes_ok : SplitOk W E 60 [] bstep (fun _ _ => True) := by
  refine ⟨by kernel_rfl, fun _ _ _ _ _ => trivial, fun _ _ _ _ => trivial, fun s d e c h => ?_, fun s T bb off dcap cells data atEOF _ hne hdat hle hcap _ => ?_⟩
  · unfold bstep at h; split at h <;> cases h
  · refine (scanBytes_ct bb off data.length dcap atEOF ((bb, ⟨cells, 5, (0, 0)⟩) :: T) ?_ hcap).mono ?_
    · rcases hne with h | h
      · left; intro h0; exact h (List.length_eq_zero_iff.1 h0)
      · exact .inr h
    rintro v K ⟨rfl, rfl⟩
    cases data with
    | nil => exact ⟨.slice none 0 0, T, rfl, rfl, trivial, fun _ _ h _ => h, rfl⟩
    | cons b d =>
      refine ⟨.slice (some ⟨bb, off, none⟩) 1 dcap, T, rfl, rfl, trivial, fun _ _ h _ => h, bb, off, dcap, _, rfl, m0, ?_, rfl, by simp at hcap ⊢; omega⟩
      show (cells.drop off).take 1 = bcells [b]
      have := congrArg (List.take 1) hdat
      rw [List.take_take] at this
      simpa [bcells] using this

theorem bytes_ct (hE : Errs W E) (ps : List Int) (text : List UInt8) (pv : Value) (tog : Bool) (c most : Int) (hpv : Pcs W pv ps) (htl : text.length ≤ 1099511627776) (hpl : ps.length ≤ 4611686018427387904) (hmost : most ≤ 9223372036854775807) (hlim : 0 < limitOf c most) :
    Ct Tryd.prog W 29 #[.agg #[str text, pv, .bool tog, .bool false], .agg #[.int .i64 c, .int .i64 most]] [] (fun v H' => ∃ u, v = .tuple #[u, .int .i64 0] ∧ StrsAt H' u (singles text)) := by
  obtain ⟨n, x, htk, hx0⟩ := all_toks (bgood (L := (limitOf c most).toNat) (by omega)) ps (brun text) pv tog c most htl (by simp)
  refine ct_of_cw (vs := [_, _]) Tryd.func29 rfl rfl fun w1 => ?_
  refine cw_seq ?_; refine cw_region ?_
  refine ol_box rfl rfl fun b2 => ?_
  refine ol_box rfl rfl fun b3 => ?_
  refine ol_ev (ev_assign rfl) rfl ?_; refine ol_ev (ev_assign rfl) rfl ?_; refine ol_nil ?_; refine cw_seq ?_; refine cw_region ?_
  refine ol_ev (ev_loadS (cs := [str text, pv, .bool tog, .bool false]) rfl rfl m1 rfl) rfl ?_
  refine ol_ev (ev_loadS (cs := [.int .i64 c, .int .i64 most]) rfl rfl m0 rfl) rfl ?_
  refine ol_call3 (G := []) (cap := []) rfl rfl rfl rfl rfl (scanner_ct (E := E) bytes_ok ps () [] text pv tog false c most trivial hpv (by omega) hpl hmost) (List.Perm.refl _) ?_
  rintro v G' ⟨sb, rb, rfl, hready⟩
  refine ol_call1 (G := G') (cap := []) rfl rfl rfl (tokens_ct hE bytes_ok ps n _ false (singles text) x sb rb G' htk hready (by simp [singles]; omega)) (List.Perm.refl _) ?_
  rintro v G'' ⟨b, sp, rfl, hmem⟩
  rw [hx0]
  refine ol_ev (ev_extract rfl rfl) rfl ?_; refine ol_ev (ev_extract rfl rfl) rfl ?_; refine ol_ev (ev_assign rfl) rfl ?_; refine ol_ev (ev_assign rfl) rfl ?_; refine ol_nil ?_; refine cw_ret ?_
  exact ⟨_, res2 rfl rfl rfl, _, rfl, b, _, sp, rfl, List.mem_append_left _ hmem, Nat.le_add_right _ _⟩

end
end Go.HE
