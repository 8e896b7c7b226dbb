/- A scanner over each token of another one, by contracts. Conditions: the errors are as start-up lays them; the pieces lie in old memory; the text has at most 2 to the 40th bytes. -/
import Derived.Test.YtbmmiohamdegdaaDoorFrames
import Derived.Test.YtbmmiohamdegdaaDoorFork
import Derived.Test.YtbmmiohamdegdaaDoorApp
set_option maxRecDepth 100000
set_option maxHeartbeats 8000000
namespace Go.HE
open Go.RowKit Go.Proofs

/-- A list of lists of strings, and one of numbers, in the call's own memory. -/
def RowsAt (H : Heap) (v : Value) (tss : List (List (List UInt8))) : Prop :=
  ∃ a cap, v = .slice (some a) tss.length cap ∧ ∀ (i : Nat) ts, tss[i]? = some ts → ∃ b o u, a = ⟨b, 0, none⟩ ∧ (b, o) ∈ H ∧ o.cells[0 + i]? = some u ∧ StrsAt H u ts
def IntsAt (H : Heap) (v : Value) (es : List Int) : Prop :=
  ∃ a cap, v = .slice (some a) es.length cap ∧ ∀ (i : Nat) k, es[i]? = some k → ∃ b o, a = ⟨b, 0, none⟩ ∧ (b, o) ∈ H ∧ o.cells[0 + i]? = some (.int .i64 k)

/-- What has been told so far. -/
def OutAt (F : List UInt8 → List (List UInt8)) (G : List UInt8 → Option Nat) (A : Heap) (v10 v11 : Value) (ds : List (List UInt8)) : Prop :=
  (ds = [] ∧ A = [] ∧ ∃ p q, v10 = .slice (some p) 0 0 ∧ v11 = .slice (some q) 0 0) ∨
  ∃ ob vs sp eb sp2 I, A = (ob, ⟨vs ++ sp, 30, (0, 0)⟩) :: (eb, ⟨(ds.map fun t => Value.int .i64 (codeOf (G t))) ++ sp2, 3, (0, 0)⟩) :: I ∧ v10 = .slice (some ⟨ob, 0, none⟩) ds.length (ds.length + sp.length) ∧ v11 = .slice (some ⟨eb, 0, none⟩) ds.length (ds.length + sp2.length) ∧
    vs.length = ds.length ∧ (∀ u ∈ vs, u.oneCell' = true) ∧ ∀ (i : Nat) (v : Value) (t : List UInt8), vs[i]? = some v → ds[i]? = some t → StrsAt I v (F t)

theorem out_rows {F : List UInt8 → List (List UInt8)} {G : List UInt8 → Option Nat} {A H : Heap} {v10 v11 : Value} {ds : List (List UInt8)} (h : OutAt F G A v10 v11 ds) (hs : ∀ p ∈ A, p ∈ H) : RowsAt H v10 (ds.map F) ∧ IntsAt H v11 (ds.map fun t => codeOf (G t)) := by
  rcases h with ⟨rfl, rfl, p, q, rfl, rfl⟩ | ⟨ob, vs, sp, eb, sp2, I, rfl, rfl, rfl, hl, _, hall⟩
  · exact ⟨⟨p, 0, rfl, fun i ts h => by simp at h⟩, ⟨q, 0, rfl, fun i k h => by simp at h⟩⟩
  · refine ⟨⟨⟨ob, 0, none⟩, _, by rw [List.length_map], fun i ts hi => ?_⟩, ⟨⟨eb, 0, none⟩, _, by rw [List.length_map], fun i k hi => ?_⟩⟩
    · rw [List.getElem?_map] at hi
      obtain ⟨t, ht, rfl⟩ := Option.map_eq_some_iff.1 hi
      have hlt : i < ds.length := (List.getElem?_eq_some_iff.1 ht).1
      refine ⟨ob, _, vs[i], rfl, hs _ m0, ?_, ?_⟩
      · show (vs ++ sp)[0 + i]? = _
        rw [Nat.zero_add, List.getElem?_append_left (by omega), List.getElem?_eq_getElem]
      · exact (hall i _ t (List.getElem?_eq_getElem (by omega)) ht).sub fun p hp => hs _ (List.mem_cons_of_mem _ (List.mem_cons_of_mem _ hp))
    · rw [List.getElem?_map] at hi
      obtain ⟨t, ht, rfl⟩ := Option.map_eq_some_iff.1 hi
      have hlt : i < ds.length := (List.getElem?_eq_some_iff.1 ht).1
      refine ⟨eb, _, rfl, hs _ m1, ?_⟩
      show ((ds.map fun t => Value.int .i64 (codeOf (G t))) ++ sp2)[0 + i]? = _
      rw [Nat.zero_add, List.getElem?_append_left (by simpa using hlt), List.getElem?_map, ht]; rfl

theorem perm_out {x o e : Nat × HO} {S R : Heap} : (x :: (S ++ (o :: e :: R))).Perm (o :: e :: x :: (S ++ R)) := by
  have h1 : (S ++ (o :: e :: R)).Perm (o :: e :: (S ++ R)) := List.perm_middle.trans (List.perm_middle.cons o)
  exact (h1.cons x).trans ((List.Perm.swap o x _).trans ((List.Perm.swap e x _).cons o))
theorem perm_back {x o e : Nat × HO} {S R : Heap} : (o :: e :: x :: (S ++ R)).Perm (S ++ (o :: e :: x :: R)) :=
  (List.perm_middle.trans ((List.perm_middle.trans ((List.perm_middle (a := x)).cons e)).cons o)).symm

section
variable {W : World} {E : Nat → Addr}
theorem nested_ct (hE : Errs W E) (ps : List Int) (text : List UInt8) (pv : Value) (tog : Bool) (c most width : Int) (w : Nat) (hw : (w : Int) = min (max width 1) 3) (ts : List (List UInt8)) (e : Option Nat) (F : List UInt8 → List (List UInt8)) (G : List UInt8 → Option Nat) (hpv : Pcs W pv ps) (htl : text.length ≤ 1099511627776) (hpl : ps.length ≤ 4611686018427387904) (hmost : most ≤ 9223372036854775807) (hlim : 0 < limitOf c most)
    (hr : Run (Fq w (limitOf c most).toNat) () text ts e) (he : e ≠ some 0) (htn : ts.length ≤ 1099511627776)
    (hin : ∀ t ∈ ts, t.length ≤ 1099511627776 ∧ (F t).length ≤ 1099511627776 ∧ G t ≠ some 0 ∧ Run (Fq w (limitOf c most).toNat) () t (F t) (G t)) :
    Ct Tryd.prog W 19 #[.agg #[str text, pv, .bool tog, .bool false], .agg #[.int .i64 c, .int .i64 most], .int .i64 width] [] (fun v H' => ∃ u1 u2, v = .tuple #[u1, u2, .int .i64 (codeOf e)] ∧ RowsAt H' u1 (ts.map F) ∧ IntsAt H' u2 (ts.map fun t => codeOf (G t))) := by
  have hk1 : 1 ≤ w := by omega
  have hk3 : w ≤ 3 := by omega
  have hpv0 : Pcs W (.slice none 0 0) [] := ⟨none, 0, rfl, fun i p h => by simp at h⟩
  obtain ⟨n, x, htk, hx0⟩ := all_toks (fgood (w := w) (L := (limitOf c most).toNat) (by omega) (by omega)) ps hr pv tog c most htl he
  refine ct_of_cw (vs := [_, _, _]) Tryd.func19 rfl rfl fun w1 => ?_
  refine cw_seq ?_
  repeat (first | refine ol_ev (ev_move rfl) rfl ?_ | refine ol_ev (ev_nilP rfl) rfl ?_ | refine ol_ev (ev_fld rfl) rfl ?_ | refine ol_ev (ev_load rfl m0 rfl) rfl ?_ | refine ol_ev (ev_load rfl m1 rfl) rfl ?_ | refine ol_ev (ev_load rfl m2 rfl) rfl ?_ | refine ol_ev (ev_load rfl m3 rfl) rfl ?_ | refine ol_ev (ev_assign rfl) rfl ?_ | refine cw_region ?_ | refine ol_nil ?_ | refine ol_ev (ev_extract rfl rfl) rfl ?_ | refine ol_ev (ev_gt rfl rfl) rfl ?_ | refine ol_ev (ev_lt rfl rfl) rfl ?_ | refine ol_ev (ev_eq rfl rfl) rfl ?_ | refine ol_ev (ev_len_s rfl) rfl ?_ | refine ol_ev (ev_len_str rfl) rfl ?_ | refine ol_ev (ev_pick_t rfl rfl) rfl ?_ | refine ol_ev (ev_pick_f rfl rfl) rfl ?_ | refine ol_ev (ev_ge rfl rfl) rfl ?_ | refine ol_ev (ev_le rfl rfl) rfl ?_ | refine ol_ev (ev_ne rfl rfl) rfl ?_ | refine ol_ev (ev_not rfl) rfl ?_ | refine ol_ev (ev_eqnil_i rfl) rfl ?_ | refine ol_ev (ev_eqnil_n rfl) rfl ?_ | refine ol_ev (ev_nenil_i rfl) rfl ?_ | refine ol_ev (ev_nenil_n rfl) rfl ?_ | refine ol_ev (ev_nenil_s rfl) rfl ?_ | refine ol_ev (ev_eqnil_s rfl) rfl ?_ | refine ol_ev (ev_min rfl rfl) rfl ?_ | refine ol_ev (ev_max rfl rfl) rfl ?_ | refine ol_ev (ev_mkiface rfl) rfl ?_ | refine ol_ev (ev_nilI rfl) rfl ?_ | refine ol_ev (ev_nilF rfl) rfl ?_ | refine ol_ev (ev_cap_s rfl) rfl ?_ | refine ol_ev (ev_eq_str rfl rfl) rfl ?_ | refine ol_ev (ev_ne_str rfl rfl) rfl ?_ | refine ol_ev (ev_mkfunc0) rfl ?_ | refine ol_ev (ev_mkfunc1 rfl) rfl ?_ | refine ol_ev (ev_mkfunc2 rfl rfl) rfl ?_ | refine ol_ev (ev_mkfunc3 rfl rfl rfl) rfl ?_ | refine ol_ev (ev_load rfl m4 rfl) rfl ?_ | refine ol_ev (ev_load rfl m5 rfl) rfl ?_ | refine ol_store rfl rfl rfl u0 rfl rfl ?_ | refine ol_store rfl rfl rfl u1 rfl rfl ?_ | refine ol_store rfl rfl rfl u2 rfl rfl ?_ | refine ol_store rfl rfl rfl u3 rfl rfl ?_ | refine ol_store rfl rfl rfl u4 rfl rfl ?_ | refine ol_store rfl rfl rfl u5 rfl rfl ?_ | refine ol_on rfl rfl rfl ?_ | refine ol_off rfl rfl rfl rfl rfl ?_ | refine ol_offu rfl rfl rfl rfl ?_ | (refine ol_ev (ev_quo rfl rfl ?_ ?_ ?_) rfl ?_; omega; omega; (constructor <;> omega)) | (refine ol_ev (ev_add rfl rfl ?_) rfl ?_; (constructor <;> omega)) | (refine ol_ev (ev_sub rfl rfl ?_) rfl ?_; (constructor <;> omega)))
  refine ol_box rfl rfl fun b3 => ?_
  refine ol_box rfl rfl fun b4 => ?_
  repeat (first | refine ol_ev (ev_move rfl) rfl ?_ | refine ol_ev (ev_nilP rfl) rfl ?_ | refine ol_ev (ev_fld rfl) rfl ?_ | refine ol_ev (ev_load rfl m0 rfl) rfl ?_ | refine ol_ev (ev_load rfl m1 rfl) rfl ?_ | refine ol_ev (ev_load rfl m2 rfl) rfl ?_ | refine ol_ev (ev_load rfl m3 rfl) rfl ?_ | refine ol_ev (ev_assign rfl) rfl ?_ | refine cw_region ?_ | refine ol_nil ?_ | refine ol_ev (ev_extract rfl rfl) rfl ?_ | refine ol_ev (ev_gt rfl rfl) rfl ?_ | refine ol_ev (ev_lt rfl rfl) rfl ?_ | refine ol_ev (ev_eq rfl rfl) rfl ?_ | refine ol_ev (ev_len_s rfl) rfl ?_ | refine ol_ev (ev_len_str rfl) rfl ?_ | refine ol_ev (ev_pick_t rfl rfl) rfl ?_ | refine ol_ev (ev_pick_f rfl rfl) rfl ?_ | refine ol_ev (ev_ge rfl rfl) rfl ?_ | refine ol_ev (ev_le rfl rfl) rfl ?_ | refine ol_ev (ev_ne rfl rfl) rfl ?_ | refine ol_ev (ev_not rfl) rfl ?_ | refine ol_ev (ev_eqnil_i rfl) rfl ?_ | refine ol_ev (ev_eqnil_n rfl) rfl ?_ | refine ol_ev (ev_nenil_i rfl) rfl ?_ | refine ol_ev (ev_nenil_n rfl) rfl ?_ | refine ol_ev (ev_nenil_s rfl) rfl ?_ | refine ol_ev (ev_eqnil_s rfl) rfl ?_ | refine ol_ev (ev_min rfl rfl) rfl ?_ | refine ol_ev (ev_max rfl rfl) rfl ?_ | refine ol_ev (ev_mkiface rfl) rfl ?_ | refine ol_ev (ev_nilI rfl) rfl ?_ | refine ol_ev (ev_nilF rfl) rfl ?_ | refine ol_ev (ev_cap_s rfl) rfl ?_ | refine ol_ev (ev_eq_str rfl rfl) rfl ?_ | refine ol_ev (ev_ne_str rfl rfl) rfl ?_ | refine ol_ev (ev_mkfunc0) rfl ?_ | refine ol_ev (ev_mkfunc1 rfl) rfl ?_ | refine ol_ev (ev_mkfunc2 rfl rfl) rfl ?_ | refine ol_ev (ev_mkfunc3 rfl rfl rfl) rfl ?_ | refine ol_ev (ev_load rfl m4 rfl) rfl ?_ | refine ol_ev (ev_load rfl m5 rfl) rfl ?_ | refine ol_store rfl rfl rfl u0 rfl rfl ?_ | refine ol_store rfl rfl rfl u1 rfl rfl ?_ | refine ol_store rfl rfl rfl u2 rfl rfl ?_ | refine ol_store rfl rfl rfl u3 rfl rfl ?_ | refine ol_store rfl rfl rfl u4 rfl rfl ?_ | refine ol_store rfl rfl rfl u5 rfl rfl ?_ | refine ol_on rfl rfl rfl ?_ | refine ol_off rfl rfl rfl rfl rfl ?_ | refine ol_offu rfl rfl rfl rfl ?_ | (refine ol_ev (ev_quo rfl rfl ?_ ?_ ?_) rfl ?_; omega; omega; (constructor <;> omega)) | (refine ol_ev (ev_add rfl rfl ?_) rfl ?_; (constructor <;> omega)) | (refine ol_ev (ev_sub rfl rfl ?_) rfl ?_; (constructor <;> omega)))
  refine cw_cut (fun l' H' => ∃ sb rb wb o5 o6 G0, SubE l' [(2, .int .i64 width), (4, .pointer (some ⟨b4, 0, none⟩)), (9, .pointer (some ⟨sb, 0, none⟩)), (10, .slice (some ⟨o5, 0, none⟩) 0 0), (11, .slice (some ⟨o6, 0, none⟩) 0 0)] ∧
    H' = G0 ++ [(b4, ⟨[.int .i64 c, .int .i64 most], 26, (0, 0)⟩), (b3, ⟨[str text, pv, .bool tog, .bool false], 24, (0, 0)⟩)] ∧ Ready W E ps (fun _ T => (wb, (⟨[.int .i64 (w : Int)], 3, (0, 0)⟩ : HO)) ∈ T) sb rb (.func (.func 33) #[] [.pointer (some ⟨wb, 0, none⟩)].toArray) (startM () text pv tog false c most) false G0) ?_ ?_
  · refine cw_fork ((.fr 0 (.fr 1 (.fr 2 (.alt (.ef 3 (.alt (.ef 4 (.fr 7 (.alt (.ef 5 (.fr 8 (.ef 6 (.fr 9 .nil)))) (.ef 6 (.ef 5 (.fr 8 (.fr 9 .nil))))))) (.alt (.ef 5 (.alt (.ef 4 (.fr 7 (.fr 8 (.ef 6 (.fr 9 .nil))))) (.ef 6 (.ef 4 (.fr 7 (.fr 8 (.fr 9 .nil))))))) (.ef 6 (.alt (.ef 4 (.fr 7 (.ef 5 (.fr 8 (.fr 9 .nil))))) (.ef 5 (.ef 4 (.fr 7 (.fr 8 (.fr 9 .nil)))))))))) (.alt (.ef 5 (.alt (.ef 3 (.alt (.ef 4 (.fr 7 (.fr 8 (.ef 6 (.fr 9 .nil))))) (.ef 6 (.ef 4 (.fr 7 (.fr 8 (.fr 9 .nil))))))) (.ef 6 (.ef 3 (.ef 4 (.fr 7 (.fr 8 (.fr 9 .nil)))))))) (.ef 6 (.alt (.ef 3 (.alt (.ef 4 (.fr 7 (.ef 5 (.fr 8 (.fr 9 .nil))))) (.ef 5 (.ef 4 (.fr 7 (.fr 8 (.fr 9 .nil))))))) (.ef 5 (.ef 3 (.ef 4 (.fr 7 (.fr 8 (.fr 9 .nil)))))))))))))) [(b4, ⟨[.int .i64 c, .int .i64 most], 26, (0, 0)⟩), (b3, ⟨[str text, pv, .bool tog, .bool false], 24, (0, 0)⟩)] mixed (by kernel_rfl) (List.Sublist.refl _) (fun _ _ _ h => h) (fun _ _ h => h) ?_
    refine ft_ev rfl (ev_loadS (cs := [str text, pv, .bool tog, .bool false]) rfl rfl m1 rfl) rfl ?_
    refine ft_ev rfl (ev_loadS (cs := [.int .i64 c, .int .i64 most]) rfl rfl m0 rfl) rfl ?_
    refine ft_ev rfl (ev_move rfl) rfl ?_
    refine ft_alt ?_ ?_
    · refine ft_x rfl ?_
      refine ol_call1 (G := []) (cap := []) rfl rfl rfl (framesF_ct width w hw) (List.Perm.refl _) ?_
      rintro v G0 ⟨wb, rfl, rfl⟩
      refine ol_nil ⟨(by first | exact sub_refl | exact sub_right | exact sub_tail sub_refl), ?_⟩
      refine ft_alt ?_ ?_
      · refine ft_x rfl ?_
        refine ol_call3 (G := [(wb, ⟨[.int .i64 (w : Int)], 3, (0, 0)⟩)]) (cap := []) rfl rfl rfl rfl rfl (scanner_ct (E := E) (frames_ok hE wb w hk1 hk3) ps () [(wb, ⟨[.int .i64 (w : Int)], 3, (0, 0)⟩)] text pv tog false c most m0 hpv (by omega) hpl hmost) (List.Perm.refl _) ?_
        rintro v G ⟨sb, rb, rfl, hready⟩
        refine ol_nil ⟨(by first | exact sub_refl | exact sub_right | exact sub_tail sub_refl), ?_⟩
        refine ft_ev rfl (ev_assign rfl) rfl ?_
        refine ft_alt ?_ ?_
        · refine ft_x rfl ?_
          refine ol_slice0 rfl fun o5 => ?_
          refine OL.less (List.sublist_cons_self _ _) ?_
          refine ol_nil ⟨(by first | exact sub_refl | exact sub_right | exact sub_tail sub_refl), ?_⟩
          refine ft_ev rfl (ev_assign rfl) rfl ?_
          refine ft_x rfl ?_
          refine ol_slice0 rfl fun o6 => ?_
          refine OL.less (List.sublist_cons_self _ _) ?_
          refine ol_nil ⟨(by first | exact sub_refl | exact sub_right | exact sub_tail sub_refl), ?_⟩
          refine ft_ev rfl (ev_assign rfl) rfl ?_
          refine ft_nil ?_
          exact ⟨sb, rb, wb, o5, o6, G, ⟨rfl, rfl, rfl, rfl, rfl, trivial⟩, rfl, hready⟩
        · refine ft_x rfl ?_
          refine ol_slice0 rfl fun o6 => ?_
          refine OL.less (List.sublist_cons_self _ _) ?_
          refine ol_nil ⟨(by first | exact sub_refl | exact sub_right | exact sub_tail sub_refl), ?_⟩
          refine ft_x rfl ?_
          refine ol_slice0 rfl fun o5 => ?_
          refine OL.less (List.sublist_cons_self _ _) ?_
          refine ol_nil ⟨(by first | exact sub_refl | exact sub_right | exact sub_tail sub_refl), ?_⟩
          refine ft_ev rfl (ev_assign rfl) rfl ?_
          refine ft_ev rfl (ev_assign rfl) rfl ?_
          refine ft_nil ?_
          exact ⟨sb, rb, wb, o5, o6, G, ⟨rfl, rfl, rfl, rfl, rfl, trivial⟩, rfl, hready⟩
      · refine ft_alt ?_ ?_
        · refine ft_x rfl ?_
          refine ol_slice0 rfl fun o5 => ?_
          refine OL.less (List.sublist_cons_self _ _) ?_
          refine ol_nil ⟨(by first | exact sub_refl | exact sub_right | exact sub_tail sub_refl), ?_⟩
          refine ft_alt ?_ ?_
          · refine ft_x rfl ?_
            refine ol_call3 (G := [(wb, ⟨[.int .i64 (w : Int)], 3, (0, 0)⟩)]) (cap := []) rfl rfl rfl rfl rfl (scanner_ct (E := E) (frames_ok hE wb w hk1 hk3) ps () [(wb, ⟨[.int .i64 (w : Int)], 3, (0, 0)⟩)] text pv tog false c most m0 hpv (by omega) hpl hmost) (List.Perm.refl _) ?_
            rintro v G ⟨sb, rb, rfl, hready⟩
            refine ol_nil ⟨(by first | exact sub_refl | exact sub_right | exact sub_tail sub_refl), ?_⟩
            refine ft_ev rfl (ev_assign rfl) rfl ?_
            refine ft_ev rfl (ev_assign rfl) rfl ?_
            refine ft_x rfl ?_
            refine ol_slice0 rfl fun o6 => ?_
            refine OL.less (List.sublist_cons_self _ _) ?_
            refine ol_nil ⟨(by first | exact sub_refl | exact sub_right | exact sub_tail sub_refl), ?_⟩
            refine ft_ev rfl (ev_assign rfl) rfl ?_
            refine ft_nil ?_
            exact ⟨sb, rb, wb, o5, o6, G, ⟨rfl, rfl, rfl, rfl, rfl, trivial⟩, rfl, hready⟩
          · refine ft_x rfl ?_
            refine ol_slice0 rfl fun o6 => ?_
            refine OL.less (List.sublist_cons_self _ _) ?_
            refine ol_nil ⟨(by first | exact sub_refl | exact sub_right | exact sub_tail sub_refl), ?_⟩
            refine ft_x rfl ?_
            refine ol_call3 (G := [(wb, ⟨[.int .i64 (w : Int)], 3, (0, 0)⟩)]) (cap := []) rfl rfl rfl rfl rfl (scanner_ct (E := E) (frames_ok hE wb w hk1 hk3) ps () [(wb, ⟨[.int .i64 (w : Int)], 3, (0, 0)⟩)] text pv tog false c most m0 hpv (by omega) hpl hmost) (List.Perm.refl _) ?_
            rintro v G ⟨sb, rb, rfl, hready⟩
            refine ol_nil ⟨(by first | exact sub_refl | exact sub_right | exact sub_tail sub_refl), ?_⟩
            refine ft_ev rfl (ev_assign rfl) rfl ?_
            refine ft_ev rfl (ev_assign rfl) rfl ?_
            refine ft_ev rfl (ev_assign rfl) rfl ?_
            refine ft_nil ?_
            exact ⟨sb, rb, wb, o5, o6, G, ⟨rfl, rfl, rfl, rfl, rfl, trivial⟩, rfl, hready⟩
        · refine ft_x rfl ?_
          refine ol_slice0 rfl fun o6 => ?_
          refine OL.less (List.sublist_cons_self _ _) ?_
          refine ol_nil ⟨(by first | exact sub_refl | exact sub_right | exact sub_tail sub_refl), ?_⟩
          refine ft_alt ?_ ?_
          · refine ft_x rfl ?_
            refine ol_call3 (G := [(wb, ⟨[.int .i64 (w : Int)], 3, (0, 0)⟩)]) (cap := []) rfl rfl rfl rfl rfl (scanner_ct (E := E) (frames_ok hE wb w hk1 hk3) ps () [(wb, ⟨[.int .i64 (w : Int)], 3, (0, 0)⟩)] text pv tog false c most m0 hpv (by omega) hpl hmost) (List.Perm.refl _) ?_
            rintro v G ⟨sb, rb, rfl, hready⟩
            refine ol_nil ⟨(by first | exact sub_refl | exact sub_right | exact sub_tail sub_refl), ?_⟩
            refine ft_ev rfl (ev_assign rfl) rfl ?_
            refine ft_x rfl ?_
            refine ol_slice0 rfl fun o5 => ?_
            refine OL.less (List.sublist_cons_self _ _) ?_
            refine ol_nil ⟨(by first | exact sub_refl | exact sub_right | exact sub_tail sub_refl), ?_⟩
            refine ft_ev rfl (ev_assign rfl) rfl ?_
            refine ft_ev rfl (ev_assign rfl) rfl ?_
            refine ft_nil ?_
            exact ⟨sb, rb, wb, o5, o6, G, ⟨rfl, rfl, rfl, rfl, rfl, trivial⟩, rfl, hready⟩
          · refine ft_x rfl ?_
            refine ol_slice0 rfl fun o5 => ?_
            refine OL.less (List.sublist_cons_self _ _) ?_
            refine ol_nil ⟨(by first | exact sub_refl | exact sub_right | exact sub_tail sub_refl), ?_⟩
            refine ft_x rfl ?_
            refine ol_call3 (G := [(wb, ⟨[.int .i64 (w : Int)], 3, (0, 0)⟩)]) (cap := []) rfl rfl rfl rfl rfl (scanner_ct (E := E) (frames_ok hE wb w hk1 hk3) ps () [(wb, ⟨[.int .i64 (w : Int)], 3, (0, 0)⟩)] text pv tog false c most m0 hpv (by omega) hpl hmost) (List.Perm.refl _) ?_
            rintro v G ⟨sb, rb, rfl, hready⟩
            refine ol_nil ⟨(by first | exact sub_refl | exact sub_right | exact sub_tail sub_refl), ?_⟩
            refine ft_ev rfl (ev_assign rfl) rfl ?_
            refine ft_ev rfl (ev_assign rfl) rfl ?_
            refine ft_ev rfl (ev_assign rfl) rfl ?_
            refine ft_nil ?_
            exact ⟨sb, rb, wb, o5, o6, G, ⟨rfl, rfl, rfl, rfl, rfl, trivial⟩, rfl, hready⟩
    · refine ft_alt ?_ ?_
      · refine ft_x rfl ?_
        refine ol_slice0 rfl fun o5 => ?_
        refine OL.less (List.sublist_cons_self _ _) ?_
        refine ol_nil ⟨(by first | exact sub_refl | exact sub_right | exact sub_tail sub_refl), ?_⟩
        refine ft_alt ?_ ?_
        · refine ft_x rfl ?_
          refine ol_call1 (G := []) (cap := []) rfl rfl rfl (framesF_ct width w hw) (List.Perm.refl _) ?_
          rintro v G0 ⟨wb, rfl, rfl⟩
          refine ol_nil ⟨(by first | exact sub_refl | exact sub_right | exact sub_tail sub_refl), ?_⟩
          refine ft_alt ?_ ?_
          · refine ft_x rfl ?_
            refine ol_call3 (G := [(wb, ⟨[.int .i64 (w : Int)], 3, (0, 0)⟩)]) (cap := []) rfl rfl rfl rfl rfl (scanner_ct (E := E) (frames_ok hE wb w hk1 hk3) ps () [(wb, ⟨[.int .i64 (w : Int)], 3, (0, 0)⟩)] text pv tog false c most m0 hpv (by omega) hpl hmost) (List.Perm.refl _) ?_
            rintro v G ⟨sb, rb, rfl, hready⟩
            refine ol_nil ⟨(by first | exact sub_refl | exact sub_right | exact sub_tail sub_refl), ?_⟩
            refine ft_ev rfl (ev_assign rfl) rfl ?_
            refine ft_ev rfl (ev_assign rfl) rfl ?_
            refine ft_x rfl ?_
            refine ol_slice0 rfl fun o6 => ?_
            refine OL.less (List.sublist_cons_self _ _) ?_
            refine ol_nil ⟨(by first | exact sub_refl | exact sub_right | exact sub_tail sub_refl), ?_⟩
            refine ft_ev rfl (ev_assign rfl) rfl ?_
            refine ft_nil ?_
            exact ⟨sb, rb, wb, o5, o6, G, ⟨rfl, rfl, rfl, rfl, rfl, trivial⟩, rfl, hready⟩
          · refine ft_x rfl ?_
            refine ol_slice0 rfl fun o6 => ?_
            refine OL.less (List.sublist_cons_self _ _) ?_
            refine ol_nil ⟨(by first | exact sub_refl | exact sub_right | exact sub_tail sub_refl), ?_⟩
            refine ft_x rfl ?_
            refine ol_call3 (G := [(wb, ⟨[.int .i64 (w : Int)], 3, (0, 0)⟩)]) (cap := []) rfl rfl rfl rfl rfl (scanner_ct (E := E) (frames_ok hE wb w hk1 hk3) ps () [(wb, ⟨[.int .i64 (w : Int)], 3, (0, 0)⟩)] text pv tog false c most m0 hpv (by omega) hpl hmost) (List.Perm.refl _) ?_
            rintro v G ⟨sb, rb, rfl, hready⟩
            refine ol_nil ⟨(by first | exact sub_refl | exact sub_right | exact sub_tail sub_refl), ?_⟩
            refine ft_ev rfl (ev_assign rfl) rfl ?_
            refine ft_ev rfl (ev_assign rfl) rfl ?_
            refine ft_ev rfl (ev_assign rfl) rfl ?_
            refine ft_nil ?_
            exact ⟨sb, rb, wb, o5, o6, G, ⟨rfl, rfl, rfl, rfl, rfl, trivial⟩, rfl, hready⟩
        · refine ft_x rfl ?_
          refine ol_slice0 rfl fun o6 => ?_
          refine OL.less (List.sublist_cons_self _ _) ?_
          refine ol_nil ⟨(by first | exact sub_refl | exact sub_right | exact sub_tail sub_refl), ?_⟩
          refine ft_x rfl ?_
          refine ol_call1 (G := []) (cap := []) rfl rfl rfl (framesF_ct width w hw) (List.Perm.refl _) ?_
          rintro v G0 ⟨wb, rfl, rfl⟩
          refine ol_nil ⟨(by first | exact sub_refl | exact sub_right | exact sub_tail sub_refl), ?_⟩
          refine ft_x rfl ?_
          refine ol_call3 (G := [(wb, ⟨[.int .i64 (w : Int)], 3, (0, 0)⟩)]) (cap := []) rfl rfl rfl rfl rfl (scanner_ct (E := E) (frames_ok hE wb w hk1 hk3) ps () [(wb, ⟨[.int .i64 (w : Int)], 3, (0, 0)⟩)] text pv tog false c most m0 hpv (by omega) hpl hmost) (List.Perm.refl _) ?_
          rintro v G ⟨sb, rb, rfl, hready⟩
          refine ol_nil ⟨(by first | exact sub_refl | exact sub_right | exact sub_tail sub_refl), ?_⟩
          refine ft_ev rfl (ev_assign rfl) rfl ?_
          refine ft_ev rfl (ev_assign rfl) rfl ?_
          refine ft_ev rfl (ev_assign rfl) rfl ?_
          refine ft_nil ?_
          exact ⟨sb, rb, wb, o5, o6, G, ⟨rfl, rfl, rfl, rfl, rfl, trivial⟩, rfl, hready⟩
      · refine ft_x rfl ?_
        refine ol_slice0 rfl fun o6 => ?_
        refine OL.less (List.sublist_cons_self _ _) ?_
        refine ol_nil ⟨(by first | exact sub_refl | exact sub_right | exact sub_tail sub_refl), ?_⟩
        refine ft_alt ?_ ?_
        · refine ft_x rfl ?_
          refine ol_call1 (G := []) (cap := []) rfl rfl rfl (framesF_ct width w hw) (List.Perm.refl _) ?_
          rintro v G0 ⟨wb, rfl, rfl⟩
          refine ol_nil ⟨(by first | exact sub_refl | exact sub_right | exact sub_tail sub_refl), ?_⟩
          refine ft_alt ?_ ?_
          · refine ft_x rfl ?_
            refine ol_call3 (G := [(wb, ⟨[.int .i64 (w : Int)], 3, (0, 0)⟩)]) (cap := []) rfl rfl rfl rfl rfl (scanner_ct (E := E) (frames_ok hE wb w hk1 hk3) ps () [(wb, ⟨[.int .i64 (w : Int)], 3, (0, 0)⟩)] text pv tog false c most m0 hpv (by omega) hpl hmost) (List.Perm.refl _) ?_
            rintro v G ⟨sb, rb, rfl, hready⟩
            refine ol_nil ⟨(by first | exact sub_refl | exact sub_right | exact sub_tail sub_refl), ?_⟩
            refine ft_ev rfl (ev_assign rfl) rfl ?_
            refine ft_x rfl ?_
            refine ol_slice0 rfl fun o5 => ?_
            refine OL.less (List.sublist_cons_self _ _) ?_
            refine ol_nil ⟨(by first | exact sub_refl | exact sub_right | exact sub_tail sub_refl), ?_⟩
            refine ft_ev rfl (ev_assign rfl) rfl ?_
            refine ft_ev rfl (ev_assign rfl) rfl ?_
            refine ft_nil ?_
            exact ⟨sb, rb, wb, o5, o6, G, ⟨rfl, rfl, rfl, rfl, rfl, trivial⟩, rfl, hready⟩
          · refine ft_x rfl ?_
            refine ol_slice0 rfl fun o5 => ?_
            refine OL.less (List.sublist_cons_self _ _) ?_
            refine ol_nil ⟨(by first | exact sub_refl | exact sub_right | exact sub_tail sub_refl), ?_⟩
            refine ft_x rfl ?_
            refine ol_call3 (G := [(wb, ⟨[.int .i64 (w : Int)], 3, (0, 0)⟩)]) (cap := []) rfl rfl rfl rfl rfl (scanner_ct (E := E) (frames_ok hE wb w hk1 hk3) ps () [(wb, ⟨[.int .i64 (w : Int)], 3, (0, 0)⟩)] text pv tog false c most m0 hpv (by omega) hpl hmost) (List.Perm.refl _) ?_
            rintro v G ⟨sb, rb, rfl, hready⟩
            refine ol_nil ⟨(by first | exact sub_refl | exact sub_right | exact sub_tail sub_refl), ?_⟩
            refine ft_ev rfl (ev_assign rfl) rfl ?_
            refine ft_ev rfl (ev_assign rfl) rfl ?_
            refine ft_ev rfl (ev_assign rfl) rfl ?_
            refine ft_nil ?_
            exact ⟨sb, rb, wb, o5, o6, G, ⟨rfl, rfl, rfl, rfl, rfl, trivial⟩, rfl, hready⟩
        · refine ft_x rfl ?_
          refine ol_slice0 rfl fun o5 => ?_
          refine OL.less (List.sublist_cons_self _ _) ?_
          refine ol_nil ⟨(by first | exact sub_refl | exact sub_right | exact sub_tail sub_refl), ?_⟩
          refine ft_x rfl ?_
          refine ol_call1 (G := []) (cap := []) rfl rfl rfl (framesF_ct width w hw) (List.Perm.refl _) ?_
          rintro v G0 ⟨wb, rfl, rfl⟩
          refine ol_nil ⟨(by first | exact sub_refl | exact sub_right | exact sub_tail sub_refl), ?_⟩
          refine ft_x rfl ?_
          refine ol_call3 (G := [(wb, ⟨[.int .i64 (w : Int)], 3, (0, 0)⟩)]) (cap := []) rfl rfl rfl rfl rfl (scanner_ct (E := E) (frames_ok hE wb w hk1 hk3) ps () [(wb, ⟨[.int .i64 (w : Int)], 3, (0, 0)⟩)] text pv tog false c most m0 hpv (by omega) hpl hmost) (List.Perm.refl _) ?_
          rintro v G ⟨sb, rb, rfl, hready⟩
          refine ol_nil ⟨(by first | exact sub_refl | exact sub_right | exact sub_tail sub_refl), ?_⟩
          refine ft_ev rfl (ev_assign rfl) rfl ?_
          refine ft_ev rfl (ev_assign rfl) rfl ?_
          refine ft_ev rfl (ev_assign rfl) rfl ?_
          refine ft_nil ?_
          exact ⟨sb, rb, wb, o5, o6, G, ⟨rfl, rfl, rfl, rfl, rfl, trivial⟩, rfl, hready⟩
  · rintro l' H' ⟨sb, rb, wb, o5, o6, G0, hl', rfl, hready⟩
    refine CW.weak hl' ?_
    clear hl'
    have hsp := frames_ok (W := W) (E := E) hE wb w hk1 hk3
    refine cw_cut (fun l' H' => ∃ (s : Sc) (v10 v11 : Value) (T A : Heap), SubE l' [(9, .pointer (some ⟨sb, 0, none⟩)), (10, v10), (11, v11)] ∧ H' = ((sb, s.ho E) :: T) ++ (A ++ [(b4, ⟨[.int .i64 c, .int .i64 most], 26, (0, 0)⟩), (b3, ⟨[str text, pv, .bool tog, .bool false], 24, (0, 0)⟩)]) ∧ s.err = x ∧ (∀ k, x = some k → k < 9) ∧ OutAt F G A v10 v11 ts) ?_ ?_
    · refine cw_block ?_
      refine cw_loop (σ := Nat × M Unit × Bool × List (List UInt8) × List (List UInt8) × Heap × Heap × Value × Value)
        (fun g => [(2, .int .i64 width), (4, .pointer (some ⟨b4, 0, none⟩)), (9, .pointer (some ⟨sb, 0, none⟩)), (10, g.2.2.2.2.2.2.2.1), (11, g.2.2.2.2.2.2.2.2)])
        (fun g => g.2.2.2.2.2.1 ++ (g.2.2.2.2.2.2.1 ++ [(b4, ⟨[.int .i64 c, .int .i64 most], 26, (0, 0)⟩), (b3, ⟨[str text, pv, .bool tog, .bool false], 24, (0, 0)⟩)]))
        (fun g => Toks (fstep w) ps g.1 g.2.1 g.2.2.1 g.2.2.2.2.1 x ∧ Ready W E ps (fun _ T => (wb, (⟨[.int .i64 (w : Int)], 3, (0, 0)⟩ : HO)) ∈ T) sb rb (.func (.func 33) #[] [.pointer (some ⟨wb, 0, none⟩)].toArray) g.2.1 g.2.2.1 g.2.2.2.2.2.1 ∧ g.2.2.2.1 ++ g.2.2.2.2.1 = ts ∧ OutAt F G g.2.2.2.2.2.2.1 g.2.2.2.2.2.2.2.1 g.2.2.2.2.2.2.2.2 g.2.2.2.1) (fun g => g.1)
        (n, startM () text pv tog false c most, false, [], ts, G0, [], .slice (some ⟨o5, 0, none⟩) 0 0, .slice (some ⟨o6, 0, none⟩) 0 0) ⟨htk, hready, rfl, .inl ⟨rfl, rfl, _, _, rfl, rfl⟩⟩ (fun _ h => h) rfl ?_
      rintro ⟨n, m, dn, ds, r, SH, A, v10, v11⟩ ⟨ht, hrd, hts, hout⟩
      simp only at ht hrd hts hout ⊢
      cases n with
      | zero => exact ht.elim
      | succ n =>
        rcases ht with ⟨rfl, rfl, rfl⟩ | ⟨rfl, k, e', hsc, hend⟩
        · repeat (first | refine ol_ev (ev_move rfl) rfl ?_ | refine ol_ev (ev_nilP rfl) rfl ?_ | refine ol_ev (ev_fld rfl) rfl ?_ | refine ol_ev (ev_load rfl m0 rfl) rfl ?_ | refine ol_ev (ev_load rfl m1 rfl) rfl ?_ | refine ol_ev (ev_load rfl m2 rfl) rfl ?_ | refine ol_ev (ev_load rfl m3 rfl) rfl ?_ | refine ol_ev (ev_assign rfl) rfl ?_ | refine cw_seq ?_ | refine cw_region ?_ | refine ol_nil ?_ | refine cw_ret ?_ | refine cw_skip ?_ | refine cw_block ?_ | refine cw_exit ?_ | refine cw_if_t rfl ?_ | refine cw_if_f rfl ?_ | refine ol_ev (ev_extract rfl rfl) rfl ?_ | refine ol_ev (ev_gt rfl rfl) rfl ?_ | refine ol_ev (ev_lt rfl rfl) rfl ?_ | refine ol_ev (ev_eq rfl rfl) rfl ?_ | refine ol_ev (ev_len_s rfl) rfl ?_ | refine ol_ev (ev_len_str rfl) rfl ?_ | refine ol_ev (ev_pick_t rfl rfl) rfl ?_ | refine ol_ev (ev_pick_f rfl rfl) rfl ?_ | refine ol_ev (ev_ge rfl rfl) rfl ?_ | refine ol_ev (ev_le rfl rfl) rfl ?_ | refine ol_ev (ev_ne rfl rfl) rfl ?_ | refine ol_ev (ev_not rfl) rfl ?_ | refine ol_ev (ev_eqnil_i rfl) rfl ?_ | refine ol_ev (ev_eqnil_n rfl) rfl ?_ | refine ol_ev (ev_nenil_i rfl) rfl ?_ | refine ol_ev (ev_nenil_n rfl) rfl ?_ | refine ol_ev (ev_nenil_s rfl) rfl ?_ | refine ol_ev (ev_eqnil_s rfl) rfl ?_ | refine ol_ev (ev_min rfl rfl) rfl ?_ | refine ol_ev (ev_max rfl rfl) rfl ?_ | refine ol_ev (ev_mkiface rfl) rfl ?_ | refine ol_ev (ev_nilI rfl) rfl ?_ | refine ol_ev (ev_nilF rfl) rfl ?_ | refine ol_ev (ev_cap_s rfl) rfl ?_ | refine ol_ev (ev_eq_str rfl rfl) rfl ?_ | refine ol_ev (ev_ne_str rfl rfl) rfl ?_ | refine ol_ev (ev_mkfunc0) rfl ?_ | refine ol_ev (ev_mkfunc1 rfl) rfl ?_ | refine ol_ev (ev_mkfunc2 rfl rfl) rfl ?_ | refine ol_ev (ev_mkfunc3 rfl rfl rfl) rfl ?_ | refine ol_ev (ev_load rfl m4 rfl) rfl ?_ | refine ol_ev (ev_load rfl m5 rfl) rfl ?_ | refine ol_store rfl rfl rfl u0 rfl rfl ?_ | refine ol_store rfl rfl rfl u1 rfl rfl ?_ | refine ol_store rfl rfl rfl u2 rfl rfl ?_ | refine ol_store rfl rfl rfl u3 rfl rfl ?_ | refine ol_store rfl rfl rfl u4 rfl rfl ?_ | refine ol_store rfl rfl rfl u5 rfl rfl ?_ | refine ol_on rfl rfl rfl ?_ | refine ol_off rfl rfl rfl rfl rfl ?_ | refine ol_offu rfl rfl rfl rfl ?_ | (refine ol_ev (ev_quo rfl rfl ?_ ?_ ?_) rfl ?_; omega; omega; (constructor <;> omega)) | (refine ol_ev (ev_add rfl rfl ?_) rfl ?_; (constructor <;> omega)) | (refine ol_ev (ev_sub rfl rfl ?_) rfl ?_; (constructor <;> omega)))
          refine ol_call1 (G := SH) (R := A ++ [(b4, ⟨[.int .i64 c, .int .i64 most], 26, (0, 0)⟩), (b3, ⟨[str text, pv, .bool tog, .bool false], 24, (0, 0)⟩)]) (cap := []) rfl rfl rfl (ready_done_ct ps m sb rb _ SH hrd) (List.Perm.refl _) ?_
          rintro v G' ⟨rfl, rfl⟩
          repeat (first | refine ol_ev (ev_move rfl) rfl ?_ | refine ol_ev (ev_nilP rfl) rfl ?_ | refine ol_ev (ev_fld rfl) rfl ?_ | refine ol_ev (ev_load rfl m0 rfl) rfl ?_ | refine ol_ev (ev_load rfl m1 rfl) rfl ?_ | refine ol_ev (ev_load rfl m2 rfl) rfl ?_ | refine ol_ev (ev_load rfl m3 rfl) rfl ?_ | refine ol_ev (ev_assign rfl) rfl ?_ | refine cw_seq ?_ | refine cw_region ?_ | refine ol_nil ?_ | refine cw_ret ?_ | refine cw_skip ?_ | refine cw_block ?_ | refine cw_exit ?_ | refine cw_if_t rfl ?_ | refine cw_if_f rfl ?_ | refine ol_ev (ev_extract rfl rfl) rfl ?_ | refine ol_ev (ev_gt rfl rfl) rfl ?_ | refine ol_ev (ev_lt rfl rfl) rfl ?_ | refine ol_ev (ev_eq rfl rfl) rfl ?_ | refine ol_ev (ev_len_s rfl) rfl ?_ | refine ol_ev (ev_len_str rfl) rfl ?_ | refine ol_ev (ev_pick_t rfl rfl) rfl ?_ | refine ol_ev (ev_pick_f rfl rfl) rfl ?_ | refine ol_ev (ev_ge rfl rfl) rfl ?_ | refine ol_ev (ev_le rfl rfl) rfl ?_ | refine ol_ev (ev_ne rfl rfl) rfl ?_ | refine ol_ev (ev_not rfl) rfl ?_ | refine ol_ev (ev_eqnil_i rfl) rfl ?_ | refine ol_ev (ev_eqnil_n rfl) rfl ?_ | refine ol_ev (ev_nenil_i rfl) rfl ?_ | refine ol_ev (ev_nenil_n rfl) rfl ?_ | refine ol_ev (ev_nenil_s rfl) rfl ?_ | refine ol_ev (ev_eqnil_s rfl) rfl ?_ | refine ol_ev (ev_min rfl rfl) rfl ?_ | refine ol_ev (ev_max rfl rfl) rfl ?_ | refine ol_ev (ev_mkiface rfl) rfl ?_ | refine ol_ev (ev_nilI rfl) rfl ?_ | refine ol_ev (ev_nilF rfl) rfl ?_ | refine ol_ev (ev_cap_s rfl) rfl ?_ | refine ol_ev (ev_eq_str rfl rfl) rfl ?_ | refine ol_ev (ev_ne_str rfl rfl) rfl ?_ | refine ol_ev (ev_mkfunc0) rfl ?_ | refine ol_ev (ev_mkfunc1 rfl) rfl ?_ | refine ol_ev (ev_mkfunc2 rfl rfl) rfl ?_ | refine ol_ev (ev_mkfunc3 rfl rfl rfl) rfl ?_ | refine ol_ev (ev_load rfl m4 rfl) rfl ?_ | refine ol_ev (ev_load rfl m5 rfl) rfl ?_ | refine ol_store rfl rfl rfl u0 rfl rfl ?_ | refine ol_store rfl rfl rfl u1 rfl rfl ?_ | refine ol_store rfl rfl rfl u2 rfl rfl ?_ | refine ol_store rfl rfl rfl u3 rfl rfl ?_ | refine ol_store rfl rfl rfl u4 rfl rfl ?_ | refine ol_store rfl rfl rfl u5 rfl rfl ?_ | refine ol_on rfl rfl rfl ?_ | refine ol_off rfl rfl rfl rfl rfl ?_ | refine ol_offu rfl rfl rfl rfl ?_ | (refine ol_ev (ev_quo rfl rfl ?_ ?_ ?_) rfl ?_; omega; omega; (constructor <;> omega)) | (refine ol_ev (ev_add rfl rfl ?_) rfl ?_; (constructor <;> omega)) | (refine ol_ev (ev_sub rfl rfl ?_) rfl ?_; (constructor <;> omega)))
          rw [List.append_nil] at hts
          subst hts
          rcases hrd with ⟨bb, bs, tok, T, called, rfl, inv⟩ | ⟨h, _⟩
          · exact ⟨⟨rb, _, m.mx, tok, _, m.start, m.start + m.data.length, m.err, m.emp, called, true⟩, v10, v11, _, A, ⟨rfl, rfl, rfl, trivial⟩, rfl, rfl, inv.ok.err, hout⟩
          · cases h
        · repeat (first | refine ol_ev (ev_move rfl) rfl ?_ | refine ol_ev (ev_nilP rfl) rfl ?_ | refine ol_ev (ev_fld rfl) rfl ?_ | refine ol_ev (ev_load rfl m0 rfl) rfl ?_ | refine ol_ev (ev_load rfl m1 rfl) rfl ?_ | refine ol_ev (ev_load rfl m2 rfl) rfl ?_ | refine ol_ev (ev_load rfl m3 rfl) rfl ?_ | refine ol_ev (ev_assign rfl) rfl ?_ | refine cw_seq ?_ | refine cw_region ?_ | refine ol_nil ?_ | refine cw_ret ?_ | refine cw_skip ?_ | refine cw_block ?_ | refine cw_exit ?_ | refine cw_if_t rfl ?_ | refine cw_if_f rfl ?_ | refine ol_ev (ev_extract rfl rfl) rfl ?_ | refine ol_ev (ev_gt rfl rfl) rfl ?_ | refine ol_ev (ev_lt rfl rfl) rfl ?_ | refine ol_ev (ev_eq rfl rfl) rfl ?_ | refine ol_ev (ev_len_s rfl) rfl ?_ | refine ol_ev (ev_len_str rfl) rfl ?_ | refine ol_ev (ev_pick_t rfl rfl) rfl ?_ | refine ol_ev (ev_pick_f rfl rfl) rfl ?_ | refine ol_ev (ev_ge rfl rfl) rfl ?_ | refine ol_ev (ev_le rfl rfl) rfl ?_ | refine ol_ev (ev_ne rfl rfl) rfl ?_ | refine ol_ev (ev_not rfl) rfl ?_ | refine ol_ev (ev_eqnil_i rfl) rfl ?_ | refine ol_ev (ev_eqnil_n rfl) rfl ?_ | refine ol_ev (ev_nenil_i rfl) rfl ?_ | refine ol_ev (ev_nenil_n rfl) rfl ?_ | refine ol_ev (ev_nenil_s rfl) rfl ?_ | refine ol_ev (ev_eqnil_s rfl) rfl ?_ | refine ol_ev (ev_min rfl rfl) rfl ?_ | refine ol_ev (ev_max rfl rfl) rfl ?_ | refine ol_ev (ev_mkiface rfl) rfl ?_ | refine ol_ev (ev_nilI rfl) rfl ?_ | refine ol_ev (ev_nilF rfl) rfl ?_ | refine ol_ev (ev_cap_s rfl) rfl ?_ | refine ol_ev (ev_eq_str rfl rfl) rfl ?_ | refine ol_ev (ev_ne_str rfl rfl) rfl ?_ | refine ol_ev (ev_mkfunc0) rfl ?_ | refine ol_ev (ev_mkfunc1 rfl) rfl ?_ | refine ol_ev (ev_mkfunc2 rfl rfl) rfl ?_ | refine ol_ev (ev_mkfunc3 rfl rfl rfl) rfl ?_ | refine ol_ev (ev_load rfl m4 rfl) rfl ?_ | refine ol_ev (ev_load rfl m5 rfl) rfl ?_ | refine ol_store rfl rfl rfl u0 rfl rfl ?_ | refine ol_store rfl rfl rfl u1 rfl rfl ?_ | refine ol_store rfl rfl rfl u2 rfl rfl ?_ | refine ol_store rfl rfl rfl u3 rfl rfl ?_ | refine ol_store rfl rfl rfl u4 rfl rfl ?_ | refine ol_store rfl rfl rfl u5 rfl rfl ?_ | refine ol_on rfl rfl rfl ?_ | refine ol_off rfl rfl rfl rfl rfl ?_ | refine ol_offu rfl rfl rfl rfl ?_ | (refine ol_ev (ev_quo rfl rfl ?_ ?_ ?_) rfl ?_; omega; omega; (constructor <;> omega)) | (refine ol_ev (ev_add rfl rfl ?_) rfl ?_; (constructor <;> omega)) | (refine ol_ev (ev_sub rfl rfl ?_) rfl ?_; (constructor <;> omega)))
          refine ol_call1 (G := SH) (R := A ++ [(b4, ⟨[.int .i64 c, .int .i64 most], 26, (0, 0)⟩), (b3, ⟨[str text, pv, .bool tog, .bool false], 24, (0, 0)⟩)]) (cap := []) rfl rfl rfl (ready_scan_ct hE hsp ps k m e' sb rb SH hsc hrd) (List.Perm.refl _) ?_
          rintro v G' hleft
          have hrd' := hleft.ready
          obtain ⟨rfl, bb, bs, tok, T, rfl, inv, htok⟩ := hleft
          rcases hend with ⟨hb, rfl, rfl⟩ | ⟨t, r', hb, het, rfl, hto⟩
          · rw [hb]
            repeat (first | refine ol_ev (ev_move rfl) rfl ?_ | refine ol_ev (ev_nilP rfl) rfl ?_ | refine ol_ev (ev_fld rfl) rfl ?_ | refine ol_ev (ev_load rfl m0 rfl) rfl ?_ | refine ol_ev (ev_load rfl m1 rfl) rfl ?_ | refine ol_ev (ev_load rfl m2 rfl) rfl ?_ | refine ol_ev (ev_load rfl m3 rfl) rfl ?_ | refine ol_ev (ev_assign rfl) rfl ?_ | refine cw_seq ?_ | refine cw_region ?_ | refine ol_nil ?_ | refine cw_ret ?_ | refine cw_skip ?_ | refine cw_block ?_ | refine cw_exit ?_ | refine cw_if_t rfl ?_ | refine cw_if_f rfl ?_ | refine ol_ev (ev_extract rfl rfl) rfl ?_ | refine ol_ev (ev_gt rfl rfl) rfl ?_ | refine ol_ev (ev_lt rfl rfl) rfl ?_ | refine ol_ev (ev_eq rfl rfl) rfl ?_ | refine ol_ev (ev_len_s rfl) rfl ?_ | refine ol_ev (ev_len_str rfl) rfl ?_ | refine ol_ev (ev_pick_t rfl rfl) rfl ?_ | refine ol_ev (ev_pick_f rfl rfl) rfl ?_ | refine ol_ev (ev_ge rfl rfl) rfl ?_ | refine ol_ev (ev_le rfl rfl) rfl ?_ | refine ol_ev (ev_ne rfl rfl) rfl ?_ | refine ol_ev (ev_not rfl) rfl ?_ | refine ol_ev (ev_eqnil_i rfl) rfl ?_ | refine ol_ev (ev_eqnil_n rfl) rfl ?_ | refine ol_ev (ev_nenil_i rfl) rfl ?_ | refine ol_ev (ev_nenil_n rfl) rfl ?_ | refine ol_ev (ev_nenil_s rfl) rfl ?_ | refine ol_ev (ev_eqnil_s rfl) rfl ?_ | refine ol_ev (ev_min rfl rfl) rfl ?_ | refine ol_ev (ev_max rfl rfl) rfl ?_ | refine ol_ev (ev_mkiface rfl) rfl ?_ | refine ol_ev (ev_nilI rfl) rfl ?_ | refine ol_ev (ev_nilF rfl) rfl ?_ | refine ol_ev (ev_cap_s rfl) rfl ?_ | refine ol_ev (ev_eq_str rfl rfl) rfl ?_ | refine ol_ev (ev_ne_str rfl rfl) rfl ?_ | refine ol_ev (ev_mkfunc0) rfl ?_ | refine ol_ev (ev_mkfunc1 rfl) rfl ?_ | refine ol_ev (ev_mkfunc2 rfl rfl) rfl ?_ | refine ol_ev (ev_mkfunc3 rfl rfl rfl) rfl ?_ | refine ol_ev (ev_load rfl m4 rfl) rfl ?_ | refine ol_ev (ev_load rfl m5 rfl) rfl ?_ | refine ol_store rfl rfl rfl u0 rfl rfl ?_ | refine ol_store rfl rfl rfl u1 rfl rfl ?_ | refine ol_store rfl rfl rfl u2 rfl rfl ?_ | refine ol_store rfl rfl rfl u3 rfl rfl ?_ | refine ol_store rfl rfl rfl u4 rfl rfl ?_ | refine ol_store rfl rfl rfl u5 rfl rfl ?_ | refine ol_on rfl rfl rfl ?_ | refine ol_off rfl rfl rfl rfl rfl ?_ | refine ol_offu rfl rfl rfl rfl ?_ | (refine ol_ev (ev_quo rfl rfl ?_ ?_ ?_) rfl ?_; omega; omega; (constructor <;> omega)) | (refine ol_ev (ev_add rfl rfl ?_) rfl ?_; (constructor <;> omega)) | (refine ol_ev (ev_sub rfl rfl ?_) rfl ?_; (constructor <;> omega)))
            rw [List.append_nil] at hts
            subst hts
            exact ⟨⟨rb, _, e'.m.mx, tok, _, e'.m.start, e'.m.start + e'.m.data.length, e'.m.err, e'.m.emp, true, e'.dn⟩, v10, v11, _, A, ⟨rfl, rfl, rfl, trivial⟩, rfl, rfl, inv.ok.err, hout⟩
          · have htk : TokAt ((bb, bufO bs) :: T) tok t := by have := htok hb; rw [het] at this; exact this
            have htk2 : TokAt ((rb, e'.m.rd.ho) :: (bb, bufO bs) :: T) tok t := by
              obtain ⟨b, off, cc, o, h1, h2, h3, h4⟩ := htk
              exact ⟨b, off, cc, o, h1, List.mem_cons_of_mem _ h2, h3, h4⟩
            have hmem : t ∈ ts := by rw [← hts]; simp
            obtain ⟨h1, h2, h3, h4⟩ := hin t hmem
            obtain ⟨n2, x2, htk3, hx3⟩ := all_toks (fgood (w := w) (L := (limitOf c most).toNat) (by omega) (by omega)) [] h4 (.slice none 0 0) false c most h1 h3
            have hl2 : ds.length + 1 ≤ ts.length := by rw [← hts]; simp
            rw [hb]
            refine ol_nil ?_
            refine cw_if_t rfl ?_
            refine cw_skip ?_
            refine cw_block ?_
            generalize hSH : scanH E sb rb (.func (.func 33) #[] [.pointer (some ⟨wb, 0, none⟩)].toArray) e'.m bb bs tok T e'.dn = SH' at hrd'
            refine cw_cut (fun l' H' => ∃ bi ci si, SubE l' [(2, .int .i64 width), (4, .pointer (some ⟨b4, 0, none⟩)), (9, .pointer (some ⟨sb, 0, none⟩)), (10, v10), (11, v11), (12, .slice (some ⟨bi, 0, none⟩) (F t).length ci), (13, .int .i64 (codeOf (G t)))] ∧ H' = (bi, strO (F t) si) :: (SH' ++ (A ++ [(b4, ⟨[.int .i64 c, .int .i64 most], 26, (0, 0)⟩), (b3, ⟨[str text, pv, .bool tog, .bool false], 24, (0, 0)⟩)])) ∧ (F t).length ≤ ci) ?_ ?_
            · refine cw_float [(0, false), (3, false), (4, false), (1, true), (2, false), (5, true), (6, true), (7, true), (8, false), (9, false), (10, false), (11, false), (12, false)] [(b4, ⟨[.int .i64 c, .int .i64 most], 26, (0, 0)⟩)] mixed (by kernel_rfl) (List.sublist_append_of_sublist_right (List.sublist_append_of_sublist_right (List.Sublist.cons_cons _ (List.nil_sublist _)))) (fun _ _ _ h => h) (fun _ _ h => h) ?_
              have hK : ∀ p ∈ [(b4, ⟨[.int .i64 c, .int .i64 most], 26, (0, 0)⟩)], p ∈ SH' ++ (A ++ [(b4, ⟨[.int .i64 c, .int .i64 most], 26, (0, 0)⟩), (b3, ⟨[str text, pv, .bool tog, .bool false], 24, (0, 0)⟩)]) := fun p hp => List.mem_append_right _ (List.mem_append_right _ (by simp at hp; simp [hp]))
              repeat (first | refine fl_ev rfl (ev_move rfl) rfl ?_ | refine fl_ev rfl (ev_nilP rfl) rfl ?_ | refine fl_ev rfl (ev_fld rfl) rfl ?_ | refine fl_ev rfl (ev_load rfl m0 rfl) rfl ?_ | refine fl_ev rfl (ev_load rfl m1 rfl) rfl ?_ | refine fl_ev rfl (ev_load rfl m2 rfl) rfl ?_ | refine fl_ev rfl (ev_load rfl m3 rfl) rfl ?_ | refine fl_ev rfl (ev_assign rfl) rfl ?_ | refine fl_ev rfl (ev_extract rfl rfl) rfl ?_ | refine fl_ev rfl (ev_gt rfl rfl) rfl ?_ | refine fl_ev rfl (ev_lt rfl rfl) rfl ?_ | refine fl_ev rfl (ev_eq rfl rfl) rfl ?_ | refine fl_ev rfl (ev_len_s rfl) rfl ?_ | refine fl_ev rfl (ev_len_str rfl) rfl ?_ | refine fl_ev rfl (ev_pick_t rfl rfl) rfl ?_ | refine fl_ev rfl (ev_pick_f rfl rfl) rfl ?_ | refine fl_ev rfl (ev_ge rfl rfl) rfl ?_ | refine fl_ev rfl (ev_le rfl rfl) rfl ?_ | refine fl_ev rfl (ev_ne rfl rfl) rfl ?_ | refine fl_ev rfl (ev_not rfl) rfl ?_ | refine fl_ev rfl (ev_eqnil_i rfl) rfl ?_ | refine fl_ev rfl (ev_eqnil_n rfl) rfl ?_ | refine fl_ev rfl (ev_nenil_i rfl) rfl ?_ | refine fl_ev rfl (ev_nenil_n rfl) rfl ?_ | refine fl_ev rfl (ev_nenil_s rfl) rfl ?_ | refine fl_ev rfl (ev_eqnil_s rfl) rfl ?_ | refine fl_ev rfl (ev_min rfl rfl) rfl ?_ | refine fl_ev rfl (ev_max rfl rfl) rfl ?_ | refine fl_ev rfl (ev_mkiface rfl) rfl ?_ | refine fl_ev rfl (ev_nilI rfl) rfl ?_ | refine fl_ev rfl (ev_nilF rfl) rfl ?_ | refine fl_ev rfl (ev_cap_s rfl) rfl ?_ | refine fl_ev rfl (ev_eq_str rfl rfl) rfl ?_ | refine fl_ev rfl (ev_ne_str rfl rfl) rfl ?_ | refine fl_ev rfl (ev_mkfunc0) rfl ?_ | refine fl_ev rfl (ev_mkfunc1 rfl) rfl ?_ | refine fl_ev rfl (ev_mkfunc2 rfl rfl) rfl ?_ | refine fl_ev rfl (ev_mkfunc3 rfl rfl rfl) rfl ?_ | refine fl_ev rfl (ev_load rfl m4 rfl) rfl ?_ | refine fl_ev rfl (ev_load rfl m5 rfl) rfl ?_ | refine fl_off rfl rfl rfl rfl rfl rfl ?_ | refine fl_offu rfl rfl rfl rfl rfl ?_ | refine fl_ev_on rfl rfl rfl (ev_move rfl) rfl rfl ?_ | refine fl_ev_on rfl rfl rfl (ev_nilP rfl) rfl rfl ?_ | refine fl_ev_on rfl rfl rfl (ev_fld rfl) rfl rfl ?_ | refine fl_ev_on rfl rfl rfl (ev_load rfl m0 rfl) rfl rfl ?_ | refine fl_ev_on rfl rfl rfl (ev_load rfl m1 rfl) rfl rfl ?_ | refine fl_ev_on rfl rfl rfl (ev_load rfl m2 rfl) rfl rfl ?_ | refine fl_ev_on rfl rfl rfl (ev_load rfl m3 rfl) rfl rfl ?_ | refine fl_ev_on rfl rfl rfl (ev_assign rfl) rfl rfl ?_ | refine fl_ev_on rfl rfl rfl (ev_extract rfl rfl) rfl rfl ?_ | refine fl_ev_on rfl rfl rfl (ev_gt rfl rfl) rfl rfl ?_ | refine fl_ev_on rfl rfl rfl (ev_lt rfl rfl) rfl rfl ?_ | refine fl_ev_on rfl rfl rfl (ev_eq rfl rfl) rfl rfl ?_ | refine fl_ev_on rfl rfl rfl (ev_len_s rfl) rfl rfl ?_ | refine fl_ev_on rfl rfl rfl (ev_len_str rfl) rfl rfl ?_ | refine fl_ev_on rfl rfl rfl (ev_pick_t rfl rfl) rfl rfl ?_ | refine fl_ev_on rfl rfl rfl (ev_pick_f rfl rfl) rfl rfl ?_ | refine fl_ev_on rfl rfl rfl (ev_ge rfl rfl) rfl rfl ?_ | refine fl_ev_on rfl rfl rfl (ev_le rfl rfl) rfl rfl ?_ | refine fl_ev_on rfl rfl rfl (ev_ne rfl rfl) rfl rfl ?_ | refine fl_ev_on rfl rfl rfl (ev_not rfl) rfl rfl ?_ | refine fl_ev_on rfl rfl rfl (ev_eqnil_i rfl) rfl rfl ?_ | refine fl_ev_on rfl rfl rfl (ev_eqnil_n rfl) rfl rfl ?_ | refine fl_ev_on rfl rfl rfl (ev_nenil_i rfl) rfl rfl ?_ | refine fl_ev_on rfl rfl rfl (ev_nenil_n rfl) rfl rfl ?_ | refine fl_ev_on rfl rfl rfl (ev_nenil_s rfl) rfl rfl ?_ | refine fl_ev_on rfl rfl rfl (ev_eqnil_s rfl) rfl rfl ?_ | refine fl_ev_on rfl rfl rfl (ev_min rfl rfl) rfl rfl ?_ | refine fl_ev_on rfl rfl rfl (ev_max rfl rfl) rfl rfl ?_ | refine fl_ev_on rfl rfl rfl (ev_mkiface rfl) rfl rfl ?_ | refine fl_ev_on rfl rfl rfl (ev_nilI rfl) rfl rfl ?_ | refine fl_ev_on rfl rfl rfl (ev_nilF rfl) rfl rfl ?_ | refine fl_ev_on rfl rfl rfl (ev_cap_s rfl) rfl rfl ?_ | refine fl_ev_on rfl rfl rfl (ev_eq_str rfl rfl) rfl rfl ?_ | refine fl_ev_on rfl rfl rfl (ev_ne_str rfl rfl) rfl rfl ?_ | refine fl_ev_on rfl rfl rfl (ev_mkfunc0) rfl rfl ?_ | refine fl_ev_on rfl rfl rfl (ev_mkfunc1 rfl) rfl rfl ?_ | refine fl_ev_on rfl rfl rfl (ev_mkfunc2 rfl rfl) rfl rfl ?_ | refine fl_ev_on rfl rfl rfl (ev_mkfunc3 rfl rfl rfl) rfl rfl ?_ | refine fl_ev_on rfl rfl rfl (ev_load rfl m4 rfl) rfl rfl ?_ | refine fl_ev_on rfl rfl rfl (ev_load rfl m5 rfl) rfl rfl ?_ | (refine fl_ev rfl (ev_add rfl rfl ?_) rfl ?_; (constructor <;> omega)) | (refine fl_ev rfl (ev_sub rfl rfl ?_) rfl ?_; (constructor <;> omega)))
              refine fl_ev rfl (ev_loadS (cs := [.int .i64 c, .int .i64 most]) rfl rfl m0 rfl) rfl ?_
              repeat (first | refine fl_ev rfl (ev_move rfl) rfl ?_ | refine fl_ev rfl (ev_nilP rfl) rfl ?_ | refine fl_ev rfl (ev_fld rfl) rfl ?_ | refine fl_ev rfl (ev_load rfl m0 rfl) rfl ?_ | refine fl_ev rfl (ev_load rfl m1 rfl) rfl ?_ | refine fl_ev rfl (ev_load rfl m2 rfl) rfl ?_ | refine fl_ev rfl (ev_load rfl m3 rfl) rfl ?_ | refine fl_ev rfl (ev_assign rfl) rfl ?_ | refine fl_ev rfl (ev_extract rfl rfl) rfl ?_ | refine fl_ev rfl (ev_gt rfl rfl) rfl ?_ | refine fl_ev rfl (ev_lt rfl rfl) rfl ?_ | refine fl_ev rfl (ev_eq rfl rfl) rfl ?_ | refine fl_ev rfl (ev_len_s rfl) rfl ?_ | refine fl_ev rfl (ev_len_str rfl) rfl ?_ | refine fl_ev rfl (ev_pick_t rfl rfl) rfl ?_ | refine fl_ev rfl (ev_pick_f rfl rfl) rfl ?_ | refine fl_ev rfl (ev_ge rfl rfl) rfl ?_ | refine fl_ev rfl (ev_le rfl rfl) rfl ?_ | refine fl_ev rfl (ev_ne rfl rfl) rfl ?_ | refine fl_ev rfl (ev_not rfl) rfl ?_ | refine fl_ev rfl (ev_eqnil_i rfl) rfl ?_ | refine fl_ev rfl (ev_eqnil_n rfl) rfl ?_ | refine fl_ev rfl (ev_nenil_i rfl) rfl ?_ | refine fl_ev rfl (ev_nenil_n rfl) rfl ?_ | refine fl_ev rfl (ev_nenil_s rfl) rfl ?_ | refine fl_ev rfl (ev_eqnil_s rfl) rfl ?_ | refine fl_ev rfl (ev_min rfl rfl) rfl ?_ | refine fl_ev rfl (ev_max rfl rfl) rfl ?_ | refine fl_ev rfl (ev_mkiface rfl) rfl ?_ | refine fl_ev rfl (ev_nilI rfl) rfl ?_ | refine fl_ev rfl (ev_nilF rfl) rfl ?_ | refine fl_ev rfl (ev_cap_s rfl) rfl ?_ | refine fl_ev rfl (ev_eq_str rfl rfl) rfl ?_ | refine fl_ev rfl (ev_ne_str rfl rfl) rfl ?_ | refine fl_ev rfl (ev_mkfunc0) rfl ?_ | refine fl_ev rfl (ev_mkfunc1 rfl) rfl ?_ | refine fl_ev rfl (ev_mkfunc2 rfl rfl) rfl ?_ | refine fl_ev rfl (ev_mkfunc3 rfl rfl rfl) rfl ?_ | refine fl_ev rfl (ev_load rfl m4 rfl) rfl ?_ | refine fl_ev rfl (ev_load rfl m5 rfl) rfl ?_ | refine fl_off rfl rfl rfl rfl rfl rfl ?_ | refine fl_offu rfl rfl rfl rfl rfl ?_ | refine fl_ev_on rfl rfl rfl (ev_move rfl) rfl rfl ?_ | refine fl_ev_on rfl rfl rfl (ev_nilP rfl) rfl rfl ?_ | refine fl_ev_on rfl rfl rfl (ev_fld rfl) rfl rfl ?_ | refine fl_ev_on rfl rfl rfl (ev_load rfl m0 rfl) rfl rfl ?_ | refine fl_ev_on rfl rfl rfl (ev_load rfl m1 rfl) rfl rfl ?_ | refine fl_ev_on rfl rfl rfl (ev_load rfl m2 rfl) rfl rfl ?_ | refine fl_ev_on rfl rfl rfl (ev_load rfl m3 rfl) rfl rfl ?_ | refine fl_ev_on rfl rfl rfl (ev_assign rfl) rfl rfl ?_ | refine fl_ev_on rfl rfl rfl (ev_extract rfl rfl) rfl rfl ?_ | refine fl_ev_on rfl rfl rfl (ev_gt rfl rfl) rfl rfl ?_ | refine fl_ev_on rfl rfl rfl (ev_lt rfl rfl) rfl rfl ?_ | refine fl_ev_on rfl rfl rfl (ev_eq rfl rfl) rfl rfl ?_ | refine fl_ev_on rfl rfl rfl (ev_len_s rfl) rfl rfl ?_ | refine fl_ev_on rfl rfl rfl (ev_len_str rfl) rfl rfl ?_ | refine fl_ev_on rfl rfl rfl (ev_pick_t rfl rfl) rfl rfl ?_ | refine fl_ev_on rfl rfl rfl (ev_pick_f rfl rfl) rfl rfl ?_ | refine fl_ev_on rfl rfl rfl (ev_ge rfl rfl) rfl rfl ?_ | refine fl_ev_on rfl rfl rfl (ev_le rfl rfl) rfl rfl ?_ | refine fl_ev_on rfl rfl rfl (ev_ne rfl rfl) rfl rfl ?_ | refine fl_ev_on rfl rfl rfl (ev_not rfl) rfl rfl ?_ | refine fl_ev_on rfl rfl rfl (ev_eqnil_i rfl) rfl rfl ?_ | refine fl_ev_on rfl rfl rfl (ev_eqnil_n rfl) rfl rfl ?_ | refine fl_ev_on rfl rfl rfl (ev_nenil_i rfl) rfl rfl ?_ | refine fl_ev_on rfl rfl rfl (ev_nenil_n rfl) rfl rfl ?_ | refine fl_ev_on rfl rfl rfl (ev_nenil_s rfl) rfl rfl ?_ | refine fl_ev_on rfl rfl rfl (ev_eqnil_s rfl) rfl rfl ?_ | refine fl_ev_on rfl rfl rfl (ev_min rfl rfl) rfl rfl ?_ | refine fl_ev_on rfl rfl rfl (ev_max rfl rfl) rfl rfl ?_ | refine fl_ev_on rfl rfl rfl (ev_mkiface rfl) rfl rfl ?_ | refine fl_ev_on rfl rfl rfl (ev_nilI rfl) rfl rfl ?_ | refine fl_ev_on rfl rfl rfl (ev_nilF rfl) rfl rfl ?_ | refine fl_ev_on rfl rfl rfl (ev_cap_s rfl) rfl rfl ?_ | refine fl_ev_on rfl rfl rfl (ev_eq_str rfl rfl) rfl rfl ?_ | refine fl_ev_on rfl rfl rfl (ev_ne_str rfl rfl) rfl rfl ?_ | refine fl_ev_on rfl rfl rfl (ev_mkfunc0) rfl rfl ?_ | refine fl_ev_on rfl rfl rfl (ev_mkfunc1 rfl) rfl rfl ?_ | refine fl_ev_on rfl rfl rfl (ev_mkfunc2 rfl rfl) rfl rfl ?_ | refine fl_ev_on rfl rfl rfl (ev_mkfunc3 rfl rfl rfl) rfl rfl ?_ | refine fl_ev_on rfl rfl rfl (ev_load rfl m4 rfl) rfl rfl ?_ | refine fl_ev_on rfl rfl rfl (ev_load rfl m5 rfl) rfl rfl ?_ | (refine fl_ev rfl (ev_add rfl rfl ?_) rfl ?_; (constructor <;> omega)) | (refine fl_ev rfl (ev_sub rfl rfl ?_) rfl ?_; (constructor <;> omega)))
              refine fl_x rfl ?_
              refine ol_call1 (G := SH') (R := A ++ [(b4, ⟨[.int .i64 c, .int .i64 most], 26, (0, 0)⟩), (b3, ⟨[str text, pv, .bool tog, .bool false], 24, (0, 0)⟩)]) (cap := []) rfl rfl rfl (S := fun v H' => v = str t ∧ H' = SH') (by
                rw [← hSH]
                exact Text_ct (E := E) ⟨rb, .func (.func 33) #[] [.pointer (some ⟨wb, 0, none⟩)].toArray, e'.m.mx, tok, .slice (some ⟨bb, 0, none⟩) e'.m.blen e'.m.blen, e'.m.start, e'.m.start + e'.m.data.length, e'.m.err, e'.m.emp, true, e'.dn⟩ sb ((rb, e'.m.rd.ho) :: (bb, bufO bs) :: T) t htk2) (List.Perm.refl _) ?_
              rintro v G' ⟨rfl, rfl⟩
              refine ol_nil ⟨hK, ?_⟩
              refine fl_ev rfl (ev_build1 rfl rfl) rfl ?_
              refine fl_x rfl ?_
              refine ol_call1 (G := []) (cap := []) rfl rfl rfl (framesF_ct width w hw) (List.Perm.refl _) ?_
              rintro v G' ⟨wb2, rfl, rfl⟩
              refine ol_nil ⟨fun p hp => List.mem_append_right _ (hK p hp), ?_⟩
              refine fl_x rfl ?_
              refine ol_call3 (G := [(wb2, ⟨[.int .i64 (w : Int)], 3, (0, 0)⟩)]) (cap := []) rfl rfl rfl rfl rfl (scanner_ct (E := E) (frames_ok hE wb2 w hk1 hk3) [] () [(wb2, ⟨[.int .i64 (w : Int)], 3, (0, 0)⟩)] t (.slice none 0 0) false false c most m0 hpv0 (by omega) (by simp) hmost) (List.Perm.refl _) ?_
              rintro v G' ⟨sb2, rb2, rfl, hready2⟩
              refine ol_nil ⟨fun p hp => List.mem_append_right _ (hK p hp), ?_⟩
              refine fl_x rfl ?_
              refine ol_call1 (G := G') (cap := []) rfl rfl rfl (tokens_ct hE (frames_ok hE wb2 w hk1 hk3) [] n2 _ false (F t) x2 sb2 rb2 G' htk3 hready2 (by omega)) (List.Perm.refl _) ?_
              rintro v G'' ⟨bi, si, rfl, hmi⟩
              rw [hx3]
              refine OL.keep hmi ?_
              refine ol_nil ⟨fun p hp => List.mem_cons_of_mem _ (hK p hp), ?_⟩
              repeat (first | refine fl_ev rfl (ev_move rfl) rfl ?_ | refine fl_ev rfl (ev_nilP rfl) rfl ?_ | refine fl_ev rfl (ev_fld rfl) rfl ?_ | refine fl_ev rfl (ev_load rfl m0 rfl) rfl ?_ | refine fl_ev rfl (ev_load rfl m1 rfl) rfl ?_ | refine fl_ev rfl (ev_load rfl m2 rfl) rfl ?_ | refine fl_ev rfl (ev_load rfl m3 rfl) rfl ?_ | refine fl_ev rfl (ev_assign rfl) rfl ?_ | refine fl_ev rfl (ev_extract rfl rfl) rfl ?_ | refine fl_ev rfl (ev_gt rfl rfl) rfl ?_ | refine fl_ev rfl (ev_lt rfl rfl) rfl ?_ | refine fl_ev rfl (ev_eq rfl rfl) rfl ?_ | refine fl_ev rfl (ev_len_s rfl) rfl ?_ | refine fl_ev rfl (ev_len_str rfl) rfl ?_ | refine fl_ev rfl (ev_pick_t rfl rfl) rfl ?_ | refine fl_ev rfl (ev_pick_f rfl rfl) rfl ?_ | refine fl_ev rfl (ev_ge rfl rfl) rfl ?_ | refine fl_ev rfl (ev_le rfl rfl) rfl ?_ | refine fl_ev rfl (ev_ne rfl rfl) rfl ?_ | refine fl_ev rfl (ev_not rfl) rfl ?_ | refine fl_ev rfl (ev_eqnil_i rfl) rfl ?_ | refine fl_ev rfl (ev_eqnil_n rfl) rfl ?_ | refine fl_ev rfl (ev_nenil_i rfl) rfl ?_ | refine fl_ev rfl (ev_nenil_n rfl) rfl ?_ | refine fl_ev rfl (ev_nenil_s rfl) rfl ?_ | refine fl_ev rfl (ev_eqnil_s rfl) rfl ?_ | refine fl_ev rfl (ev_min rfl rfl) rfl ?_ | refine fl_ev rfl (ev_max rfl rfl) rfl ?_ | refine fl_ev rfl (ev_mkiface rfl) rfl ?_ | refine fl_ev rfl (ev_nilI rfl) rfl ?_ | refine fl_ev rfl (ev_nilF rfl) rfl ?_ | refine fl_ev rfl (ev_cap_s rfl) rfl ?_ | refine fl_ev rfl (ev_eq_str rfl rfl) rfl ?_ | refine fl_ev rfl (ev_ne_str rfl rfl) rfl ?_ | refine fl_ev rfl (ev_mkfunc0) rfl ?_ | refine fl_ev rfl (ev_mkfunc1 rfl) rfl ?_ | refine fl_ev rfl (ev_mkfunc2 rfl rfl) rfl ?_ | refine fl_ev rfl (ev_mkfunc3 rfl rfl rfl) rfl ?_ | refine fl_ev rfl (ev_load rfl m4 rfl) rfl ?_ | refine fl_ev rfl (ev_load rfl m5 rfl) rfl ?_ | refine fl_off rfl rfl rfl rfl rfl rfl ?_ | refine fl_offu rfl rfl rfl rfl rfl ?_ | refine fl_ev_on rfl rfl rfl (ev_move rfl) rfl rfl ?_ | refine fl_ev_on rfl rfl rfl (ev_nilP rfl) rfl rfl ?_ | refine fl_ev_on rfl rfl rfl (ev_fld rfl) rfl rfl ?_ | refine fl_ev_on rfl rfl rfl (ev_load rfl m0 rfl) rfl rfl ?_ | refine fl_ev_on rfl rfl rfl (ev_load rfl m1 rfl) rfl rfl ?_ | refine fl_ev_on rfl rfl rfl (ev_load rfl m2 rfl) rfl rfl ?_ | refine fl_ev_on rfl rfl rfl (ev_load rfl m3 rfl) rfl rfl ?_ | refine fl_ev_on rfl rfl rfl (ev_assign rfl) rfl rfl ?_ | refine fl_ev_on rfl rfl rfl (ev_extract rfl rfl) rfl rfl ?_ | refine fl_ev_on rfl rfl rfl (ev_gt rfl rfl) rfl rfl ?_ | refine fl_ev_on rfl rfl rfl (ev_lt rfl rfl) rfl rfl ?_ | refine fl_ev_on rfl rfl rfl (ev_eq rfl rfl) rfl rfl ?_ | refine fl_ev_on rfl rfl rfl (ev_len_s rfl) rfl rfl ?_ | refine fl_ev_on rfl rfl rfl (ev_len_str rfl) rfl rfl ?_ | refine fl_ev_on rfl rfl rfl (ev_pick_t rfl rfl) rfl rfl ?_ | refine fl_ev_on rfl rfl rfl (ev_pick_f rfl rfl) rfl rfl ?_ | refine fl_ev_on rfl rfl rfl (ev_ge rfl rfl) rfl rfl ?_ | refine fl_ev_on rfl rfl rfl (ev_le rfl rfl) rfl rfl ?_ | refine fl_ev_on rfl rfl rfl (ev_ne rfl rfl) rfl rfl ?_ | refine fl_ev_on rfl rfl rfl (ev_not rfl) rfl rfl ?_ | refine fl_ev_on rfl rfl rfl (ev_eqnil_i rfl) rfl rfl ?_ | refine fl_ev_on rfl rfl rfl (ev_eqnil_n rfl) rfl rfl ?_ | refine fl_ev_on rfl rfl rfl (ev_nenil_i rfl) rfl rfl ?_ | refine fl_ev_on rfl rfl rfl (ev_nenil_n rfl) rfl rfl ?_ | refine fl_ev_on rfl rfl rfl (ev_nenil_s rfl) rfl rfl ?_ | refine fl_ev_on rfl rfl rfl (ev_eqnil_s rfl) rfl rfl ?_ | refine fl_ev_on rfl rfl rfl (ev_min rfl rfl) rfl rfl ?_ | refine fl_ev_on rfl rfl rfl (ev_max rfl rfl) rfl rfl ?_ | refine fl_ev_on rfl rfl rfl (ev_mkiface rfl) rfl rfl ?_ | refine fl_ev_on rfl rfl rfl (ev_nilI rfl) rfl rfl ?_ | refine fl_ev_on rfl rfl rfl (ev_nilF rfl) rfl rfl ?_ | refine fl_ev_on rfl rfl rfl (ev_cap_s rfl) rfl rfl ?_ | refine fl_ev_on rfl rfl rfl (ev_eq_str rfl rfl) rfl rfl ?_ | refine fl_ev_on rfl rfl rfl (ev_ne_str rfl rfl) rfl rfl ?_ | refine fl_ev_on rfl rfl rfl (ev_mkfunc0) rfl rfl ?_ | refine fl_ev_on rfl rfl rfl (ev_mkfunc1 rfl) rfl rfl ?_ | refine fl_ev_on rfl rfl rfl (ev_mkfunc2 rfl rfl) rfl rfl ?_ | refine fl_ev_on rfl rfl rfl (ev_mkfunc3 rfl rfl rfl) rfl rfl ?_ | refine fl_ev_on rfl rfl rfl (ev_load rfl m4 rfl) rfl rfl ?_ | refine fl_ev_on rfl rfl rfl (ev_load rfl m5 rfl) rfl rfl ?_ | (refine fl_ev rfl (ev_add rfl rfl ?_) rfl ?_; (constructor <;> omega)) | (refine fl_ev rfl (ev_sub rfl rfl ?_) rfl ?_; (constructor <;> omega)))
              refine fl_nil ?_
              exact ⟨bi, _, si, ⟨rfl, rfl, rfl, rfl, rfl, rfl, rfl, trivial⟩, rfl, Nat.le_add_right _ _⟩
            · rintro l' H' ⟨bi, ci, si, hl', rfl, hci⟩
              refine CW.weak hl' ?_
              clear hl'
              rcases hout with ⟨rfl, rfl, p, q, rfl, rfl⟩ | ⟨ob, vs, sp, eb, sp2, I, rfl, rfl, rfl, hvl, hone, hall⟩
              · repeat (first | refine ol_ev (ev_move rfl) rfl ?_ | refine ol_ev (ev_nilP rfl) rfl ?_ | refine ol_ev (ev_fld rfl) rfl ?_ | refine ol_ev (ev_load rfl m0 rfl) rfl ?_ | refine ol_ev (ev_load rfl m1 rfl) rfl ?_ | refine ol_ev (ev_load rfl m2 rfl) rfl ?_ | refine ol_ev (ev_load rfl m3 rfl) rfl ?_ | refine ol_ev (ev_assign rfl) rfl ?_ | refine cw_seq ?_ | refine cw_region ?_ | refine ol_nil ?_ | refine cw_ret ?_ | refine cw_skip ?_ | refine cw_block ?_ | refine cw_exit ?_ | refine cw_if_t rfl ?_ | refine cw_if_f rfl ?_ | refine ol_ev (ev_extract rfl rfl) rfl ?_ | refine ol_ev (ev_gt rfl rfl) rfl ?_ | refine ol_ev (ev_lt rfl rfl) rfl ?_ | refine ol_ev (ev_eq rfl rfl) rfl ?_ | refine ol_ev (ev_len_s rfl) rfl ?_ | refine ol_ev (ev_len_str rfl) rfl ?_ | refine ol_ev (ev_pick_t rfl rfl) rfl ?_ | refine ol_ev (ev_pick_f rfl rfl) rfl ?_ | refine ol_ev (ev_ge rfl rfl) rfl ?_ | refine ol_ev (ev_le rfl rfl) rfl ?_ | refine ol_ev (ev_ne rfl rfl) rfl ?_ | refine ol_ev (ev_not rfl) rfl ?_ | refine ol_ev (ev_eqnil_i rfl) rfl ?_ | refine ol_ev (ev_eqnil_n rfl) rfl ?_ | refine ol_ev (ev_nenil_i rfl) rfl ?_ | refine ol_ev (ev_nenil_n rfl) rfl ?_ | refine ol_ev (ev_nenil_s rfl) rfl ?_ | refine ol_ev (ev_eqnil_s rfl) rfl ?_ | refine ol_ev (ev_min rfl rfl) rfl ?_ | refine ol_ev (ev_max rfl rfl) rfl ?_ | refine ol_ev (ev_mkiface rfl) rfl ?_ | refine ol_ev (ev_nilI rfl) rfl ?_ | refine ol_ev (ev_nilF rfl) rfl ?_ | refine ol_ev (ev_cap_s rfl) rfl ?_ | refine ol_ev (ev_eq_str rfl rfl) rfl ?_ | refine ol_ev (ev_ne_str rfl rfl) rfl ?_ | refine ol_ev (ev_mkfunc0) rfl ?_ | refine ol_ev (ev_mkfunc1 rfl) rfl ?_ | refine ol_ev (ev_mkfunc2 rfl rfl) rfl ?_ | refine ol_ev (ev_mkfunc3 rfl rfl rfl) rfl ?_ | refine ol_ev (ev_load rfl m4 rfl) rfl ?_ | refine ol_ev (ev_load rfl m5 rfl) rfl ?_ | refine ol_store rfl rfl rfl u0 rfl rfl ?_ | refine ol_store rfl rfl rfl u1 rfl rfl ?_ | refine ol_store rfl rfl rfl u2 rfl rfl ?_ | refine ol_store rfl rfl rfl u3 rfl rfl ?_ | refine ol_store rfl rfl rfl u4 rfl rfl ?_ | refine ol_store rfl rfl rfl u5 rfl rfl ?_ | refine ol_on rfl rfl rfl ?_ | refine ol_off rfl rfl rfl rfl rfl ?_ | refine ol_offu rfl rfl rfl rfl ?_ | (refine ol_ev (ev_quo rfl rfl ?_ ?_ ?_) rfl ?_; omega; omega; (constructor <;> omega)) | (refine ol_ev (ev_add rfl rfl ?_) rfl ?_; (constructor <;> omega)) | (refine ol_ev (ev_sub rfl rfl ?_) rfl ?_; (constructor <;> omega)))
                refine ol_slice1 rfl rfl rfl rfl fun b1 => ?_
                refine ol_append0 (ys := [_]) rfl rfl m0 rfl rfl rfl (by omega) (by omega) (by omega) rfl ?_
                intro ob sp
                refine OL.less (List.Sublist.cons_cons _ (List.sublist_cons_self _ _)) ?_
                repeat (first | refine ol_ev (ev_move rfl) rfl ?_ | refine ol_ev (ev_nilP rfl) rfl ?_ | refine ol_ev (ev_fld rfl) rfl ?_ | refine ol_ev (ev_load rfl m0 rfl) rfl ?_ | refine ol_ev (ev_load rfl m1 rfl) rfl ?_ | refine ol_ev (ev_load rfl m2 rfl) rfl ?_ | refine ol_ev (ev_load rfl m3 rfl) rfl ?_ | refine ol_ev (ev_assign rfl) rfl ?_ | refine cw_seq ?_ | refine cw_region ?_ | refine ol_nil ?_ | refine cw_ret ?_ | refine cw_skip ?_ | refine cw_block ?_ | refine cw_exit ?_ | refine cw_if_t rfl ?_ | refine cw_if_f rfl ?_ | refine ol_ev (ev_extract rfl rfl) rfl ?_ | refine ol_ev (ev_gt rfl rfl) rfl ?_ | refine ol_ev (ev_lt rfl rfl) rfl ?_ | refine ol_ev (ev_eq rfl rfl) rfl ?_ | refine ol_ev (ev_len_s rfl) rfl ?_ | refine ol_ev (ev_len_str rfl) rfl ?_ | refine ol_ev (ev_pick_t rfl rfl) rfl ?_ | refine ol_ev (ev_pick_f rfl rfl) rfl ?_ | refine ol_ev (ev_ge rfl rfl) rfl ?_ | refine ol_ev (ev_le rfl rfl) rfl ?_ | refine ol_ev (ev_ne rfl rfl) rfl ?_ | refine ol_ev (ev_not rfl) rfl ?_ | refine ol_ev (ev_eqnil_i rfl) rfl ?_ | refine ol_ev (ev_eqnil_n rfl) rfl ?_ | refine ol_ev (ev_nenil_i rfl) rfl ?_ | refine ol_ev (ev_nenil_n rfl) rfl ?_ | refine ol_ev (ev_nenil_s rfl) rfl ?_ | refine ol_ev (ev_eqnil_s rfl) rfl ?_ | refine ol_ev (ev_min rfl rfl) rfl ?_ | refine ol_ev (ev_max rfl rfl) rfl ?_ | refine ol_ev (ev_mkiface rfl) rfl ?_ | refine ol_ev (ev_nilI rfl) rfl ?_ | refine ol_ev (ev_nilF rfl) rfl ?_ | refine ol_ev (ev_cap_s rfl) rfl ?_ | refine ol_ev (ev_eq_str rfl rfl) rfl ?_ | refine ol_ev (ev_ne_str rfl rfl) rfl ?_ | refine ol_ev (ev_mkfunc0) rfl ?_ | refine ol_ev (ev_mkfunc1 rfl) rfl ?_ | refine ol_ev (ev_mkfunc2 rfl rfl) rfl ?_ | refine ol_ev (ev_mkfunc3 rfl rfl rfl) rfl ?_ | refine ol_ev (ev_load rfl m4 rfl) rfl ?_ | refine ol_ev (ev_load rfl m5 rfl) rfl ?_ | refine ol_store rfl rfl rfl u0 rfl rfl ?_ | refine ol_store rfl rfl rfl u1 rfl rfl ?_ | refine ol_store rfl rfl rfl u2 rfl rfl ?_ | refine ol_store rfl rfl rfl u3 rfl rfl ?_ | refine ol_store rfl rfl rfl u4 rfl rfl ?_ | refine ol_store rfl rfl rfl u5 rfl rfl ?_ | refine ol_on rfl rfl rfl ?_ | refine ol_off rfl rfl rfl rfl rfl ?_ | refine ol_offu rfl rfl rfl rfl ?_ | (refine ol_ev (ev_quo rfl rfl ?_ ?_ ?_) rfl ?_; omega; omega; (constructor <;> omega)) | (refine ol_ev (ev_add rfl rfl ?_) rfl ?_; (constructor <;> omega)) | (refine ol_ev (ev_sub rfl rfl ?_) rfl ?_; (constructor <;> omega)))
                refine ol_slice1 rfl rfl rfl rfl fun b2 => ?_
                refine ol_append0 (ys := [_]) rfl rfl m0 rfl rfl rfl (by omega) (by omega) (by omega) rfl ?_
                intro eb sp2
                refine OL.perm (K := (b2, _) :: _) (List.Perm.swap _ _ _) ?_
                refine OL.less (List.sublist_cons_self _ _) ?_
                refine OL.perm (List.Perm.swap _ _ _) ?_
                refine OL.perm perm_back ?_
                repeat (first | refine ol_ev (ev_move rfl) rfl ?_ | refine ol_ev (ev_nilP rfl) rfl ?_ | refine ol_ev (ev_fld rfl) rfl ?_ | refine ol_ev (ev_load rfl m0 rfl) rfl ?_ | refine ol_ev (ev_load rfl m1 rfl) rfl ?_ | refine ol_ev (ev_load rfl m2 rfl) rfl ?_ | refine ol_ev (ev_load rfl m3 rfl) rfl ?_ | refine ol_ev (ev_assign rfl) rfl ?_ | refine cw_seq ?_ | refine cw_region ?_ | refine ol_nil ?_ | refine cw_ret ?_ | refine cw_skip ?_ | refine cw_block ?_ | refine cw_exit ?_ | refine cw_if_t rfl ?_ | refine cw_if_f rfl ?_ | refine ol_ev (ev_extract rfl rfl) rfl ?_ | refine ol_ev (ev_gt rfl rfl) rfl ?_ | refine ol_ev (ev_lt rfl rfl) rfl ?_ | refine ol_ev (ev_eq rfl rfl) rfl ?_ | refine ol_ev (ev_len_s rfl) rfl ?_ | refine ol_ev (ev_len_str rfl) rfl ?_ | refine ol_ev (ev_pick_t rfl rfl) rfl ?_ | refine ol_ev (ev_pick_f rfl rfl) rfl ?_ | refine ol_ev (ev_ge rfl rfl) rfl ?_ | refine ol_ev (ev_le rfl rfl) rfl ?_ | refine ol_ev (ev_ne rfl rfl) rfl ?_ | refine ol_ev (ev_not rfl) rfl ?_ | refine ol_ev (ev_eqnil_i rfl) rfl ?_ | refine ol_ev (ev_eqnil_n rfl) rfl ?_ | refine ol_ev (ev_nenil_i rfl) rfl ?_ | refine ol_ev (ev_nenil_n rfl) rfl ?_ | refine ol_ev (ev_nenil_s rfl) rfl ?_ | refine ol_ev (ev_eqnil_s rfl) rfl ?_ | refine ol_ev (ev_min rfl rfl) rfl ?_ | refine ol_ev (ev_max rfl rfl) rfl ?_ | refine ol_ev (ev_mkiface rfl) rfl ?_ | refine ol_ev (ev_nilI rfl) rfl ?_ | refine ol_ev (ev_nilF rfl) rfl ?_ | refine ol_ev (ev_cap_s rfl) rfl ?_ | refine ol_ev (ev_eq_str rfl rfl) rfl ?_ | refine ol_ev (ev_ne_str rfl rfl) rfl ?_ | refine ol_ev (ev_mkfunc0) rfl ?_ | refine ol_ev (ev_mkfunc1 rfl) rfl ?_ | refine ol_ev (ev_mkfunc2 rfl rfl) rfl ?_ | refine ol_ev (ev_mkfunc3 rfl rfl rfl) rfl ?_ | refine ol_ev (ev_load rfl m4 rfl) rfl ?_ | refine ol_ev (ev_load rfl m5 rfl) rfl ?_ | refine ol_store rfl rfl rfl u0 rfl rfl ?_ | refine ol_store rfl rfl rfl u1 rfl rfl ?_ | refine ol_store rfl rfl rfl u2 rfl rfl ?_ | refine ol_store rfl rfl rfl u3 rfl rfl ?_ | refine ol_store rfl rfl rfl u4 rfl rfl ?_ | refine ol_store rfl rfl rfl u5 rfl rfl ?_ | refine ol_on rfl rfl rfl ?_ | refine ol_off rfl rfl rfl rfl rfl ?_ | refine ol_offu rfl rfl rfl rfl ?_ | (refine ol_ev (ev_quo rfl rfl ?_ ?_ ?_) rfl ?_; omega; omega; (constructor <;> omega)) | (refine ol_ev (ev_add rfl rfl ?_) rfl ?_; (constructor <;> omega)) | (refine ol_ev (ev_sub rfl rfl ?_) rfl ?_; (constructor <;> omega)))
                refine ⟨(n, e'.m, e'.dn, [t], r', SH', (ob, ⟨[.slice (some ⟨bi, 0, none⟩) (F t).length ci] ++ sp, 30, (0, 0)⟩) :: (eb, ⟨([t].map fun t => Value.int .i64 (codeOf (G t))) ++ sp2, 3, (0, 0)⟩) :: [(bi, strO (F t) si)], _, _), ⟨hto, hrd', hts, .inr ⟨ob, [_], sp, eb, sp2, [(bi, strO (F t) si)], rfl, ?_, ?_, rfl, ?_, ?_⟩⟩, ⟨rfl, rfl, rfl, rfl, rfl, trivial⟩, rfl, Nat.lt_succ_self n⟩
                · rfl
                · rfl
                · intro u hu; simp only [List.mem_singleton] at hu; subst hu; rfl
                · intro i v t' hi ht'
                  cases i with
                  | zero =>
                    have e1 : t = t' := by simpa using ht'
                    have e2 := Option.some.inj hi
                    subst e1
                    rw [← e2]
                    exact ⟨bi, ci, si, rfl, m0, hci⟩
                  | succ i => simp at ht'
              · refine CW.perm perm_out ?_
                repeat (first | refine ol_ev (ev_move rfl) rfl ?_ | refine ol_ev (ev_nilP rfl) rfl ?_ | refine ol_ev (ev_fld rfl) rfl ?_ | refine ol_ev (ev_load rfl m0 rfl) rfl ?_ | refine ol_ev (ev_load rfl m1 rfl) rfl ?_ | refine ol_ev (ev_load rfl m2 rfl) rfl ?_ | refine ol_ev (ev_load rfl m3 rfl) rfl ?_ | refine ol_ev (ev_assign rfl) rfl ?_ | refine cw_seq ?_ | refine cw_region ?_ | refine ol_nil ?_ | refine cw_ret ?_ | refine cw_skip ?_ | refine cw_block ?_ | refine cw_exit ?_ | refine cw_if_t rfl ?_ | refine cw_if_f rfl ?_ | refine ol_ev (ev_extract rfl rfl) rfl ?_ | refine ol_ev (ev_gt rfl rfl) rfl ?_ | refine ol_ev (ev_lt rfl rfl) rfl ?_ | refine ol_ev (ev_eq rfl rfl) rfl ?_ | refine ol_ev (ev_len_s rfl) rfl ?_ | refine ol_ev (ev_len_str rfl) rfl ?_ | refine ol_ev (ev_pick_t rfl rfl) rfl ?_ | refine ol_ev (ev_pick_f rfl rfl) rfl ?_ | refine ol_ev (ev_ge rfl rfl) rfl ?_ | refine ol_ev (ev_le rfl rfl) rfl ?_ | refine ol_ev (ev_ne rfl rfl) rfl ?_ | refine ol_ev (ev_not rfl) rfl ?_ | refine ol_ev (ev_eqnil_i rfl) rfl ?_ | refine ol_ev (ev_eqnil_n rfl) rfl ?_ | refine ol_ev (ev_nenil_i rfl) rfl ?_ | refine ol_ev (ev_nenil_n rfl) rfl ?_ | refine ol_ev (ev_nenil_s rfl) rfl ?_ | refine ol_ev (ev_eqnil_s rfl) rfl ?_ | refine ol_ev (ev_min rfl rfl) rfl ?_ | refine ol_ev (ev_max rfl rfl) rfl ?_ | refine ol_ev (ev_mkiface rfl) rfl ?_ | refine ol_ev (ev_nilI rfl) rfl ?_ | refine ol_ev (ev_nilF rfl) rfl ?_ | refine ol_ev (ev_cap_s rfl) rfl ?_ | refine ol_ev (ev_eq_str rfl rfl) rfl ?_ | refine ol_ev (ev_ne_str rfl rfl) rfl ?_ | refine ol_ev (ev_mkfunc0) rfl ?_ | refine ol_ev (ev_mkfunc1 rfl) rfl ?_ | refine ol_ev (ev_mkfunc2 rfl rfl) rfl ?_ | refine ol_ev (ev_mkfunc3 rfl rfl rfl) rfl ?_ | refine ol_ev (ev_load rfl m4 rfl) rfl ?_ | refine ol_ev (ev_load rfl m5 rfl) rfl ?_ | refine ol_store rfl rfl rfl u0 rfl rfl ?_ | refine ol_store rfl rfl rfl u1 rfl rfl ?_ | refine ol_store rfl rfl rfl u2 rfl rfl ?_ | refine ol_store rfl rfl rfl u3 rfl rfl ?_ | refine ol_store rfl rfl rfl u4 rfl rfl ?_ | refine ol_store rfl rfl rfl u5 rfl rfl ?_ | refine ol_on rfl rfl rfl ?_ | refine ol_off rfl rfl rfl rfl rfl ?_ | refine ol_offu rfl rfl rfl rfl ?_ | (refine ol_ev (ev_quo rfl rfl ?_ ?_ ?_) rfl ?_; omega; omega; (constructor <;> omega)) | (refine ol_ev (ev_add rfl rfl ?_) rfl ?_; (constructor <;> omega)) | (refine ol_ev (ev_sub rfl rfl ?_) rfl ?_; (constructor <;> omega)))
                refine ol_slice1 rfl rfl rfl rfl fun b1 => ?_
                refine ol_append (xs := vs) (sp := sp) (ys := [.slice (some ⟨bi, 0, none⟩) (F t).length ci]) rfl rfl (fun _ _ => r1) m0 hvl (by omega) rfl rfl (by intro u hu; simp only [List.mem_singleton] at hu; subst hu; rfl) rfl (by omega) (by omega) rfl ?_
                intro ob' sp'
                refine OL.less (List.sublist_cons_self _ _) ?_
                repeat (first | refine ol_ev (ev_move rfl) rfl ?_ | refine ol_ev (ev_nilP rfl) rfl ?_ | refine ol_ev (ev_fld rfl) rfl ?_ | refine ol_ev (ev_load rfl m0 rfl) rfl ?_ | refine ol_ev (ev_load rfl m1 rfl) rfl ?_ | refine ol_ev (ev_load rfl m2 rfl) rfl ?_ | refine ol_ev (ev_load rfl m3 rfl) rfl ?_ | refine ol_ev (ev_assign rfl) rfl ?_ | refine cw_seq ?_ | refine cw_region ?_ | refine ol_nil ?_ | refine cw_ret ?_ | refine cw_skip ?_ | refine cw_block ?_ | refine cw_exit ?_ | refine cw_if_t rfl ?_ | refine cw_if_f rfl ?_ | refine ol_ev (ev_extract rfl rfl) rfl ?_ | refine ol_ev (ev_gt rfl rfl) rfl ?_ | refine ol_ev (ev_lt rfl rfl) rfl ?_ | refine ol_ev (ev_eq rfl rfl) rfl ?_ | refine ol_ev (ev_len_s rfl) rfl ?_ | refine ol_ev (ev_len_str rfl) rfl ?_ | refine ol_ev (ev_pick_t rfl rfl) rfl ?_ | refine ol_ev (ev_pick_f rfl rfl) rfl ?_ | refine ol_ev (ev_ge rfl rfl) rfl ?_ | refine ol_ev (ev_le rfl rfl) rfl ?_ | refine ol_ev (ev_ne rfl rfl) rfl ?_ | refine ol_ev (ev_not rfl) rfl ?_ | refine ol_ev (ev_eqnil_i rfl) rfl ?_ | refine ol_ev (ev_eqnil_n rfl) rfl ?_ | refine ol_ev (ev_nenil_i rfl) rfl ?_ | refine ol_ev (ev_nenil_n rfl) rfl ?_ | refine ol_ev (ev_nenil_s rfl) rfl ?_ | refine ol_ev (ev_eqnil_s rfl) rfl ?_ | refine ol_ev (ev_min rfl rfl) rfl ?_ | refine ol_ev (ev_max rfl rfl) rfl ?_ | refine ol_ev (ev_mkiface rfl) rfl ?_ | refine ol_ev (ev_nilI rfl) rfl ?_ | refine ol_ev (ev_nilF rfl) rfl ?_ | refine ol_ev (ev_cap_s rfl) rfl ?_ | refine ol_ev (ev_eq_str rfl rfl) rfl ?_ | refine ol_ev (ev_ne_str rfl rfl) rfl ?_ | refine ol_ev (ev_mkfunc0) rfl ?_ | refine ol_ev (ev_mkfunc1 rfl) rfl ?_ | refine ol_ev (ev_mkfunc2 rfl rfl) rfl ?_ | refine ol_ev (ev_mkfunc3 rfl rfl rfl) rfl ?_ | refine ol_ev (ev_load rfl m4 rfl) rfl ?_ | refine ol_ev (ev_load rfl m5 rfl) rfl ?_ | refine ol_store rfl rfl rfl u0 rfl rfl ?_ | refine ol_store rfl rfl rfl u1 rfl rfl ?_ | refine ol_store rfl rfl rfl u2 rfl rfl ?_ | refine ol_store rfl rfl rfl u3 rfl rfl ?_ | refine ol_store rfl rfl rfl u4 rfl rfl ?_ | refine ol_store rfl rfl rfl u5 rfl rfl ?_ | refine ol_on rfl rfl rfl ?_ | refine ol_off rfl rfl rfl rfl rfl ?_ | refine ol_offu rfl rfl rfl rfl ?_ | (refine ol_ev (ev_quo rfl rfl ?_ ?_ ?_) rfl ?_; omega; omega; (constructor <;> omega)) | (refine ol_ev (ev_add rfl rfl ?_) rfl ?_; (constructor <;> omega)) | (refine ol_ev (ev_sub rfl rfl ?_) rfl ?_; (constructor <;> omega)))
                refine ol_slice1 rfl rfl rfl rfl fun b2 => ?_
                refine ol_append (xs := ds.map fun t => Value.int .i64 (codeOf (G t))) (sp := sp2) (ys := [.int .i64 (codeOf (G t))]) rfl rfl (fun _ _ => r2) m0 (by simp) (by simp) rfl rfl (by intro u hu; simp only [List.mem_singleton] at hu; subst hu; rfl) rfl (by omega) (by omega) rfl ?_
                intro eb' sp2'
                refine OL.less (List.sublist_cons_self _ _) ?_
                refine OL.perm perm_back ?_
                repeat (first | refine ol_ev (ev_move rfl) rfl ?_ | refine ol_ev (ev_nilP rfl) rfl ?_ | refine ol_ev (ev_fld rfl) rfl ?_ | refine ol_ev (ev_load rfl m0 rfl) rfl ?_ | refine ol_ev (ev_load rfl m1 rfl) rfl ?_ | refine ol_ev (ev_load rfl m2 rfl) rfl ?_ | refine ol_ev (ev_load rfl m3 rfl) rfl ?_ | refine ol_ev (ev_assign rfl) rfl ?_ | refine cw_seq ?_ | refine cw_region ?_ | refine ol_nil ?_ | refine cw_ret ?_ | refine cw_skip ?_ | refine cw_block ?_ | refine cw_exit ?_ | refine cw_if_t rfl ?_ | refine cw_if_f rfl ?_ | refine ol_ev (ev_extract rfl rfl) rfl ?_ | refine ol_ev (ev_gt rfl rfl) rfl ?_ | refine ol_ev (ev_lt rfl rfl) rfl ?_ | refine ol_ev (ev_eq rfl rfl) rfl ?_ | refine ol_ev (ev_len_s rfl) rfl ?_ | refine ol_ev (ev_len_str rfl) rfl ?_ | refine ol_ev (ev_pick_t rfl rfl) rfl ?_ | refine ol_ev (ev_pick_f rfl rfl) rfl ?_ | refine ol_ev (ev_ge rfl rfl) rfl ?_ | refine ol_ev (ev_le rfl rfl) rfl ?_ | refine ol_ev (ev_ne rfl rfl) rfl ?_ | refine ol_ev (ev_not rfl) rfl ?_ | refine ol_ev (ev_eqnil_i rfl) rfl ?_ | refine ol_ev (ev_eqnil_n rfl) rfl ?_ | refine ol_ev (ev_nenil_i rfl) rfl ?_ | refine ol_ev (ev_nenil_n rfl) rfl ?_ | refine ol_ev (ev_nenil_s rfl) rfl ?_ | refine ol_ev (ev_eqnil_s rfl) rfl ?_ | refine ol_ev (ev_min rfl rfl) rfl ?_ | refine ol_ev (ev_max rfl rfl) rfl ?_ | refine ol_ev (ev_mkiface rfl) rfl ?_ | refine ol_ev (ev_nilI rfl) rfl ?_ | refine ol_ev (ev_nilF rfl) rfl ?_ | refine ol_ev (ev_cap_s rfl) rfl ?_ | refine ol_ev (ev_eq_str rfl rfl) rfl ?_ | refine ol_ev (ev_ne_str rfl rfl) rfl ?_ | refine ol_ev (ev_mkfunc0) rfl ?_ | refine ol_ev (ev_mkfunc1 rfl) rfl ?_ | refine ol_ev (ev_mkfunc2 rfl rfl) rfl ?_ | refine ol_ev (ev_mkfunc3 rfl rfl rfl) rfl ?_ | refine ol_ev (ev_load rfl m4 rfl) rfl ?_ | refine ol_ev (ev_load rfl m5 rfl) rfl ?_ | refine ol_store rfl rfl rfl u0 rfl rfl ?_ | refine ol_store rfl rfl rfl u1 rfl rfl ?_ | refine ol_store rfl rfl rfl u2 rfl rfl ?_ | refine ol_store rfl rfl rfl u3 rfl rfl ?_ | refine ol_store rfl rfl rfl u4 rfl rfl ?_ | refine ol_store rfl rfl rfl u5 rfl rfl ?_ | refine ol_on rfl rfl rfl ?_ | refine ol_off rfl rfl rfl rfl rfl ?_ | refine ol_offu rfl rfl rfl rfl ?_ | (refine ol_ev (ev_quo rfl rfl ?_ ?_ ?_) rfl ?_; omega; omega; (constructor <;> omega)) | (refine ol_ev (ev_add rfl rfl ?_) rfl ?_; (constructor <;> omega)) | (refine ol_ev (ev_sub rfl rfl ?_) rfl ?_; (constructor <;> omega)))
                refine ⟨(n, e'.m, e'.dn, ds ++ [t], r', SH', (ob', ⟨(vs ++ [.slice (some ⟨bi, 0, none⟩) (F t).length ci]) ++ sp', 30, (0, 0)⟩) :: (eb', ⟨((ds ++ [t]).map fun t => Value.int .i64 (codeOf (G t))) ++ sp2', 3, (0, 0)⟩) :: (bi, strO (F t) si) :: I, _, _), ⟨hto, hrd', by simpa using hts, .inr ⟨ob', _, sp', eb', sp2', _, rfl, ?_, ?_, ?_, ?_, ?_⟩⟩, ⟨rfl, rfl, rfl, rfl, rfl, trivial⟩, ?_, Nat.lt_succ_self n⟩
                · show Value.slice _ _ _ = Value.slice _ _ _
                  simp [hvl]
                · show Value.slice _ _ _ = Value.slice _ _ _
                  simp
                · simp [hvl]
                · intro u hu
                  rcases List.mem_append.1 hu with hu | hu
                  · exact hone u hu
                  · simp only [List.mem_singleton] at hu; subst hu; rfl
                · intro i v t' hi ht'
                  by_cases hlt : i < ds.length
                  · rw [List.getElem?_append_left (by omega)] at hi
                    rw [List.getElem?_append_left hlt] at ht'
                    exact (hall i v t' hi ht').sub fun p hp => List.mem_cons_of_mem _ hp
                  · have hle : i = ds.length := by
                      have := (List.getElem?_eq_some_iff.1 ht').1
                      simp at this
                      omega
                    subst hle
                    rw [← hvl, List.getElem?_append_right (Nat.le_refl _)] at hi
                    rw [List.getElem?_append_right (Nat.le_refl _)] at ht'
                    simp at hi ht'
                    subst hi ht'
                    exact ⟨bi, ci, si, rfl, m0, hci⟩
                · show _ = SH' ++ (_ ++ _)
                  simp only [List.map_append, List.map_cons, List.map_nil]
                  rfl
    · rintro l' H' ⟨s, v10, v11, T, A, hl', rfl, rfl, herr, hout⟩
      refine CW.weak hl' ?_
      clear hl'
      repeat (first | refine ol_ev (ev_move rfl) rfl ?_ | refine ol_ev (ev_nilP rfl) rfl ?_ | refine ol_ev (ev_fld rfl) rfl ?_ | refine ol_ev (ev_load rfl m0 rfl) rfl ?_ | refine ol_ev (ev_load rfl m1 rfl) rfl ?_ | refine ol_ev (ev_load rfl m2 rfl) rfl ?_ | refine ol_ev (ev_load rfl m3 rfl) rfl ?_ | refine ol_ev (ev_assign rfl) rfl ?_ | refine cw_seq ?_ | refine cw_region ?_ | refine ol_nil ?_ | refine cw_ret ?_ | refine cw_skip ?_ | refine cw_block ?_ | refine cw_exit ?_ | refine cw_if_t rfl ?_ | refine cw_if_f rfl ?_ | refine ol_ev (ev_extract rfl rfl) rfl ?_ | refine ol_ev (ev_gt rfl rfl) rfl ?_ | refine ol_ev (ev_lt rfl rfl) rfl ?_ | refine ol_ev (ev_eq rfl rfl) rfl ?_ | refine ol_ev (ev_len_s rfl) rfl ?_ | refine ol_ev (ev_len_str rfl) rfl ?_ | refine ol_ev (ev_pick_t rfl rfl) rfl ?_ | refine ol_ev (ev_pick_f rfl rfl) rfl ?_ | refine ol_ev (ev_ge rfl rfl) rfl ?_ | refine ol_ev (ev_le rfl rfl) rfl ?_ | refine ol_ev (ev_ne rfl rfl) rfl ?_ | refine ol_ev (ev_not rfl) rfl ?_ | refine ol_ev (ev_eqnil_i rfl) rfl ?_ | refine ol_ev (ev_eqnil_n rfl) rfl ?_ | refine ol_ev (ev_nenil_i rfl) rfl ?_ | refine ol_ev (ev_nenil_n rfl) rfl ?_ | refine ol_ev (ev_nenil_s rfl) rfl ?_ | refine ol_ev (ev_eqnil_s rfl) rfl ?_ | refine ol_ev (ev_min rfl rfl) rfl ?_ | refine ol_ev (ev_max rfl rfl) rfl ?_ | refine ol_ev (ev_mkiface rfl) rfl ?_ | refine ol_ev (ev_nilI rfl) rfl ?_ | refine ol_ev (ev_nilF rfl) rfl ?_ | refine ol_ev (ev_cap_s rfl) rfl ?_ | refine ol_ev (ev_eq_str rfl rfl) rfl ?_ | refine ol_ev (ev_ne_str rfl rfl) rfl ?_ | refine ol_ev (ev_mkfunc0) rfl ?_ | refine ol_ev (ev_mkfunc1 rfl) rfl ?_ | refine ol_ev (ev_mkfunc2 rfl rfl) rfl ?_ | refine ol_ev (ev_mkfunc3 rfl rfl rfl) rfl ?_ | refine ol_ev (ev_load rfl m4 rfl) rfl ?_ | refine ol_ev (ev_load rfl m5 rfl) rfl ?_ | refine ol_store rfl rfl rfl u0 rfl rfl ?_ | refine ol_store rfl rfl rfl u1 rfl rfl ?_ | refine ol_store rfl rfl rfl u2 rfl rfl ?_ | refine ol_store rfl rfl rfl u3 rfl rfl ?_ | refine ol_store rfl rfl rfl u4 rfl rfl ?_ | refine ol_store rfl rfl rfl u5 rfl rfl ?_ | refine ol_on rfl rfl rfl ?_ | refine ol_off rfl rfl rfl rfl rfl ?_ | refine ol_offu rfl rfl rfl rfl ?_ | (refine ol_ev (ev_quo rfl rfl ?_ ?_ ?_) rfl ?_; omega; omega; (constructor <;> omega)) | (refine ol_ev (ev_add rfl rfl ?_) rfl ?_; (constructor <;> omega)) | (refine ol_ev (ev_sub rfl rfl ?_) rfl ?_; (constructor <;> omega)))
      refine ol_call1 (G := [(sb, s.ho E)]) (R := T ++ (A ++ [(b4, ⟨[.int .i64 c, .int .i64 most], 26, (0, 0)⟩), (b3, ⟨[str text, pv, .bool tog, .bool false], 24, (0, 0)⟩)])) (cap := []) rfl rfl rfl (Err_ct hE s sb herr) (List.Perm.refl _) ?_
      rintro v G' ⟨rfl, rfl⟩
      refine ol_call1 (G := []) (cap := []) rfl rfl rfl (code_ct hE (if s.err = some 0 then none else s.err) (fun k hk => ?_)) (List.Perm.refl _) ?_
      · split at hk
        · cases hk
        · exact herr k hk
      rintro v G' ⟨rfl, rfl⟩
      rw [hx0]
      repeat (first | refine ol_ev (ev_move rfl) rfl ?_ | refine ol_ev (ev_nilP rfl) rfl ?_ | refine ol_ev (ev_fld rfl) rfl ?_ | refine ol_ev (ev_load rfl m0 rfl) rfl ?_ | refine ol_ev (ev_load rfl m1 rfl) rfl ?_ | refine ol_ev (ev_load rfl m2 rfl) rfl ?_ | refine ol_ev (ev_load rfl m3 rfl) rfl ?_ | refine ol_ev (ev_assign rfl) rfl ?_ | refine cw_seq ?_ | refine cw_region ?_ | refine ol_nil ?_ | refine cw_ret ?_ | refine cw_skip ?_ | refine cw_block ?_ | refine cw_exit ?_ | refine cw_if_t rfl ?_ | refine cw_if_f rfl ?_ | refine ol_ev (ev_extract rfl rfl) rfl ?_ | refine ol_ev (ev_gt rfl rfl) rfl ?_ | refine ol_ev (ev_lt rfl rfl) rfl ?_ | refine ol_ev (ev_eq rfl rfl) rfl ?_ | refine ol_ev (ev_len_s rfl) rfl ?_ | refine ol_ev (ev_len_str rfl) rfl ?_ | refine ol_ev (ev_pick_t rfl rfl) rfl ?_ | refine ol_ev (ev_pick_f rfl rfl) rfl ?_ | refine ol_ev (ev_ge rfl rfl) rfl ?_ | refine ol_ev (ev_le rfl rfl) rfl ?_ | refine ol_ev (ev_ne rfl rfl) rfl ?_ | refine ol_ev (ev_not rfl) rfl ?_ | refine ol_ev (ev_eqnil_i rfl) rfl ?_ | refine ol_ev (ev_eqnil_n rfl) rfl ?_ | refine ol_ev (ev_nenil_i rfl) rfl ?_ | refine ol_ev (ev_nenil_n rfl) rfl ?_ | refine ol_ev (ev_nenil_s rfl) rfl ?_ | refine ol_ev (ev_eqnil_s rfl) rfl ?_ | refine ol_ev (ev_min rfl rfl) rfl ?_ | refine ol_ev (ev_max rfl rfl) rfl ?_ | refine ol_ev (ev_mkiface rfl) rfl ?_ | refine ol_ev (ev_nilI rfl) rfl ?_ | refine ol_ev (ev_nilF rfl) rfl ?_ | refine ol_ev (ev_cap_s rfl) rfl ?_ | refine ol_ev (ev_eq_str rfl rfl) rfl ?_ | refine ol_ev (ev_ne_str rfl rfl) rfl ?_ | refine ol_ev (ev_mkfunc0) rfl ?_ | refine ol_ev (ev_mkfunc1 rfl) rfl ?_ | refine ol_ev (ev_mkfunc2 rfl rfl) rfl ?_ | refine ol_ev (ev_mkfunc3 rfl rfl rfl) rfl ?_ | refine ol_ev (ev_load rfl m4 rfl) rfl ?_ | refine ol_ev (ev_load rfl m5 rfl) rfl ?_ | refine ol_store rfl rfl rfl u0 rfl rfl ?_ | refine ol_store rfl rfl rfl u1 rfl rfl ?_ | refine ol_store rfl rfl rfl u2 rfl rfl ?_ | refine ol_store rfl rfl rfl u3 rfl rfl ?_ | refine ol_store rfl rfl rfl u4 rfl rfl ?_ | refine ol_store rfl rfl rfl u5 rfl rfl ?_ | refine ol_on rfl rfl rfl ?_ | refine ol_off rfl rfl rfl rfl rfl ?_ | refine ol_offu rfl rfl rfl rfl ?_ | (refine ol_ev (ev_quo rfl rfl ?_ ?_ ?_) rfl ?_; omega; omega; (constructor <;> omega)) | (refine ol_ev (ev_add rfl rfl ?_) rfl ?_; (constructor <;> omega)) | (refine ol_ev (ev_sub rfl rfl ?_) rfl ?_; (constructor <;> omega)))
      obtain ⟨h1, h2⟩ := out_rows (H := [] ++ ([(sb, s.ho E)] ++ (T ++ (A ++ [(b4, ⟨[.int .i64 c, .int .i64 most], 26, (0, 0)⟩), (b3, ⟨[str text, pv, .bool tog, .bool false], 24, (0, 0)⟩)])))) hout (fun p hp => by simp [hp])
      exact ⟨_, res3 rfl rfl rfl rfl, v10, v11, rfl, h1, h2⟩
end
end Go.HE
