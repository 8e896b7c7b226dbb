/- Calls of a scanner in any order tell what the reference says: the walk. Conditions: those of the contracts. -/
import Derived.Test.YtkaomlklllinlaaDoorFnLayered
import Derived.Test.YtkaomlklllinlaaDoorCalls
set_option maxRecDepth 100000
set_option maxHeartbeats 4000000
namespace Go.HE
open Go.RowKit Go.Proofs
theorem ol_call5 {P : Program} {C : Cx} {ops : Array Oper} {rest : List Oper} {l : Env} {H : Heap} {Q : Exit → Env → Heap → Prop} {ty : TypeId} {pos : String} {af : Array Edge} {d : Nat} {f : FuncId} {at' : Array TypeId} {cap : List Value} {fx a1 a2 a3 a4 a5 : Operand} {v1 v2 v3 v4 v5 : Value} {G R : Heap} {S : Value → Heap → Prop} [hT : TFn P f] (hf : ev l fx = some (.func (.func f) #[] cap.toArray)) (h1 : ev l a1 = some v1)
    (h2 : ev l a2 = some v2) (h3 : ev l a3 = some v3) (h4 : ev l a4 = some v4) (h5 : ev l a5 = some v5) (hd : Nat.ble (d + 1) C.n = true) (hc : Ct P C.W f (v1 :: v2 :: v3 :: v4 :: v5 :: cap).toArray G S) (hp : H.Perm (G ++ R)) (k : ∀ v G', S v G' → OL P C ops rest ((d, v) :: l) (G' ++ R) Q) :
    OL P C ops (⟨some d, .call ⟨.value fx, #[a1, a2, a3, a4, a5], at'⟩, ty, pos, af, none⟩ :: rest) l H Q :=
  ol_enter hd (fun a w hs _ => by simp [execOp, resolve, hs.eval hf, hs.eval h1, hs.eval h2, hs.eval h3, hs.eval h4, hs.eval h5, Deferred.ofValue, invoke, run_callFunc hT.h]) hc hp k
theorem ev_neb {P : Program} {C : Cx} {H : Heap} {l : Env} {ty t yt : TypeId} {x y : Operand} {a b : Bool} (ht : P.underlying t = some .bool) (hx : ev l x = some (.bool a)) (hy : ev l y = some (.bool b)) : Ev P C H l (.binOp .neq t x y yt) ty (.bool (!(a == b))) :=
  ev_bin hx hy (fun _ _ => by simp [eqGuard]) (fun w _ => by
    show (do pure (Value.bool (!(← Op.equalIn (9999 + 1) t (.bool a) (.bool b)))) : Sem Value).run P w = _
    unfold Op.equalIn
    simp only [Sem.run_bind, run_underlying_eq ht, Result.andThen_ok]
    rfl)
theorem cl_cells : ∀ (cs : List Cl) (i : Nat) (c : Cl) (sp : List Value), cs[i]? = some c → (((cs.map Cl.cells).flatten ++ sp).drop (0 + i * 3)).take 3 = c.cells
  | [], i, c, sp, h => by simp at h
  | a :: cs, 0, c, sp, h => by
    obtain rfl : a = c := by simpa using h
    rfl
  | a :: cs, i + 1, c, sp, h => by
    have := cl_cells cs i c sp (by simpa using h)
    rw [Nat.zero_add] at this ⊢
    rw [List.map_cons, List.flatten_cons, List.append_assoc, show (i + 1) * 3 = 3 + i * 3 by omega, ← List.drop_drop]
    exact this
section
variable {W : World} {E : Nat → Addr}
theorem fnCalls_ct (hE : Errs W E) (hT : Lib.Utf8Tabs 10 11 W) (ps : List Int) (text : List UInt8) (pv : Value) (tog brk : Bool) (c most : Int) (b : Bs) (lv : Value) (ls : List Ly) (hls : LaysAt W [] lv ls) (hll : ls.length ≤ 1099511627776) (hln : ∀ l ∈ ls, l.n ≤ 9223372036854775807) (hxl : b.x.length ≤ 549755813888) (hpv : Pcs W pv ps) (htl : text.length ≤ 549755813888) (hpl : ps.length ≤ 4611686018427387904) (hmost : most ≤ 9223372036854775807) (scv : Value) (script : List Int) (hsc : Pcs W scv script) (hsl : script.length ≤ 1099511627776) :
    Ct Tryd.prog W 4 #[.agg #[str text, pv, .bool tog, .bool brk], .agg #[.int .i64 c, .int .i64 most], .agg b.cells.toArray, lv, scv] [] (fun v _ => v = .bool true) := by
  obtain ⟨ts, err, hb⟩ := base_ex sepOf_ne b text
  have htn := hb.len sepOf_ne
  have htt := hb.tok_le
  obtain ⟨xs, ex, q⟩ : ∃ xs ex, laysT ls ts err = (xs, ex) := ⟨_, _, rfl⟩
  have hxlen : xs.length ≤ ts.length := by have := (laysT_ok ls ts err hb.okE).2; rw [q] at this; exact this
  have hokE : OkE ex := by have := (laysT_ok ls ts err hb.okE).1; rw [q] at this; exact this
  have hsc' := hsc
  obtain ⟨sa, scap, rfl, hscell⟩ := hsc'
  refine ct_of_cw (vs := [_, _, _, _, _]) Tryd.func4 rfl rfl fun w1 => ?_
  refine cw_seq ?_; refine cw_region ?_
  refine ol_box rfl rfl fun b4 => ?_
  refine ol_box rfl rfl fun b5 => ?_
  refine ol_box rfl rfl fun b6 => ?_
  refine ol_ev (ev_assign rfl) rfl ?_; refine ol_nil ?_; refine cw_seq ?_; refine cw_region ?_; refine ol_ev (ev_fld rfl) rfl ?_; refine ol_ev (ev_load rfl m2 rfl) rfl ?_
  refine ol_ev (ev_loadS (cs := b.cells) rfl rfl m0 rfl) rfl ?_
  refine ol_call2 (G := []) (cap := []) rfl rfl rfl rfl (plain_ct text b ts err hb htl hxl) (List.Perm.refl _) ?_
  rintro v G' ⟨up, un, uc, e, ok, rfl, hres⟩
  cases ok with
  | false =>
    refine OL.drop ?_
    refine ol_ev (ev_move rfl) rfl ?_; refine ol_ev (ev_extract rfl rfl) rfl ?_; refine ol_ev (ev_extract rfl rfl) rfl ?_
    refine ol_alloc rfl fun b9 => ?_
    refine ol_storeS (o := ⟨[.slice none 0 0, .int .i64 0], 41, (0, 0)⟩) (cs := [.slice up un uc, .int .i64 e]) rfl rfl rfl (by simp [Value.oneCell']) u0 rfl rfl ?_
    refine ol_ev (ev_assign rfl) rfl ?_; refine ol_nil ?_; refine cw_seq ?_; refine cw_seq ?_
    refine cw_float [(0, false), (1, false), (2, false), (3, false), (4, false), (5, false), (6, false), (7, false), (8, true), (9, false), (10, false), (11, false), (12, false), (13, false), (14, false)] [] mixed (by kernel_rfl) (List.nil_sublist _) (fun _ _ _ h => h) (fun _ _ h => h) ?_
    refine fl_ev rfl (ev_move rfl) rfl ?_; refine fl_ev rfl (ev_not rfl) rfl ?_; refine fl_ev rfl (ev_move rfl) rfl ?_; (iterate 5 (refine fl_off rfl rfl rfl rfl rfl rfl ?_))
    refine fl_x rfl ?_
    refine ol_off rfl rfl rfl rfl rfl ?_
    refine ol_nil ⟨fun _ h => (by cases h), ?_⟩
    refine fl_off rfl rfl rfl rfl rfl rfl ?_; refine fl_ev rfl (ev_pick_t rfl rfl) rfl ?_; refine fl_ev rfl (ev_move rfl) rfl ?_; refine fl_off rfl rfl rfl rfl rfl rfl ?_; refine fl_off rfl rfl rfl rfl rfl rfl ?_; refine fl_ev rfl (ev_pick_t rfl rfl) rfl ?_
    refine fl_nil ?_
    refine cw_if_t rfl ?_; refine cw_seq ?_; refine cw_region ?_; refine ol_ev (ev_assign rfl) rfl ?_; refine ol_nil ?_; refine cw_ret ?_
    exact ⟨_, res1 rfl rfl, rfl⟩
  | true =>
    obtain ⟨rfl, ob, ct, st, hu, hm, hct⟩ := hres rfl
    cases hu
    refine OL.keep hm ?_
    refine ol_ev (ev_move rfl) rfl ?_; refine ol_ev (ev_extract rfl rfl) rfl ?_; refine ol_ev (ev_extract rfl rfl) rfl ?_
    refine ol_alloc rfl fun b9 => ?_
    refine ol_storeS (o := ⟨[.slice none 0 0, .int .i64 0], 41, (0, 0)⟩) (cs := [.slice (some ⟨ob, 0, none⟩) ts.length uc, .int .i64 (codeOf err)]) rfl rfl rfl (by simp [Value.oneCell']) u0 rfl rfl ?_
    refine ol_ev (ev_assign rfl) rfl ?_; refine ol_nil ?_; refine cw_seq ?_; refine cw_seq ?_
    refine cw_float [(0, false), (1, false), (2, false), (3, false), (4, false), (5, false), (6, false), (7, false), (8, true), (9, false), (10, false), (11, false), (12, false), (13, false), (14, false)] [(b5, ⟨[.int .i64 c, .int .i64 most], 26, (0, 0)⟩), (b4, ⟨[str text, pv, .bool tog, .bool brk], 24, (0, 0)⟩)] mixed (by kernel_rfl) (List.Sublist.cons _ (List.Sublist.cons _ (List.Sublist.cons _ (List.Sublist.refl _)))) (fun _ _ _ h => h) (fun _ _ h => h) ?_
    refine fl_ev rfl (ev_move rfl) rfl ?_; refine fl_ev rfl (ev_not rfl) rfl ?_; refine fl_ev rfl (ev_move rfl) rfl ?_; refine fl_ev_on rfl rfl rfl (ev_fld rfl) rfl rfl ?_; refine fl_ev_on rfl rfl rfl (ev_load rfl m1 rfl) rfl rfl ?_; refine fl_ev_on rfl rfl rfl (ev_len_str rfl) rfl rfl ?_
    refine fl_ev_on rfl rfl rfl (ev_add rfl rfl ⟨by omega, by omega⟩) rfl rfl ?_
    refine fl_ev_on rfl rfl rfl (ev_loadS (cs := [.int .i64 c, .int .i64 most]) rfl rfl m0 rfl) rfl rfl ?_
    refine fl_x rfl ?_
    refine ol_on rfl rfl rfl ?_
    refine ol_call1 (G := []) (cap := []) rfl rfl rfl (limit_ct c most) (List.Perm.refl _) ?_
    rintro v G' rfl
    refine OL.drop ?_
    refine ol_nil ⟨fun p hp => List.mem_cons_of_mem _ (List.mem_cons_of_mem _ (List.mem_cons_of_mem _ hp)), ?_⟩
    refine fl_ev_on rfl rfl rfl (ev_ge rfl rfl) rfl rfl ?_; refine fl_ev rfl (ev_pick_f rfl rfl) rfl ?_; refine fl_ev rfl (ev_move rfl) rfl ?_
    by_cases hlim : limitOf c most ≤ ((text.length : Nat) : Int) + 1
    · rw [decide_eq_true hlim]
      refine fl_off rfl rfl rfl rfl rfl rfl ?_; refine fl_off rfl rfl rfl rfl rfl rfl ?_; refine fl_ev rfl (ev_pick_t rfl rfl) rfl ?_
      refine fl_nil ?_
      refine cw_if_t rfl ?_; refine cw_seq ?_; refine cw_region ?_; refine ol_ev (ev_assign rfl) rfl ?_; refine ol_nil ?_; refine cw_ret ?_
      exact ⟨_, res1 rfl rfl, rfl⟩
    rw [decide_eq_false hlim]
    cases brk with
    | true =>
      refine fl_ev_on rfl rfl rfl (ev_fld rfl) rfl rfl ?_; refine fl_ev_on rfl rfl rfl (ev_load rfl m1 rfl) rfl rfl ?_; refine fl_ev rfl (ev_pick_f rfl rfl) rfl ?_
      refine fl_nil ?_
      refine cw_if_t rfl ?_; refine cw_seq ?_; refine cw_region ?_; refine ol_ev (ev_assign rfl) rfl ?_; refine ol_nil ?_; refine cw_ret ?_
      exact ⟨_, res1 rfl rfl, rfl⟩
    | false =>
      refine fl_ev_on rfl rfl rfl (ev_fld rfl) rfl rfl ?_; refine fl_ev_on rfl rfl rfl (ev_load rfl m1 rfl) rfl rfl ?_; refine fl_ev rfl (ev_pick_f rfl rfl) rfl ?_
      refine fl_nil ?_
      refine cw_if_f rfl ?_; refine cw_skip ?_; refine cw_seq ?_; refine cw_region ?_
      refine ol_ev (ev_loadS (cs := [.slice (some ⟨ob, 0, none⟩) ts.length uc, .int .i64 (codeOf err)]) rfl rfl m0 rfl) rfl ?_
      refine ol_ev (ev_move rfl) rfl ?_
      have cW := within_ct (W := W) lv ls hls hll hln ob uc st ts err hct (by omega) fun t ht => Nat.le_trans (htt t ht) (by omega)
      rw [q] at cW
      simp only at cW
      refine ol_call2 (G := [(ob, strO ts st)]) (cap := []) rfl rfl rfl rfl cW (List.Perm.swap _ _ _) ?_
      rintro v GW ⟨uW, rfl, ⟨bw, cw, sw, rfl, hw, hcw⟩⟩
      refine OL.keep hw ?_
      refine ol_storeS (o := ⟨[.slice (some ⟨ob, 0, none⟩) ts.length uc, .int .i64 (codeOf err)], 41, (0, 0)⟩) (cs := [.slice (some ⟨bw, 0, none⟩) xs.length cw, .int .i64 (codeOf ex)]) rfl rfl rfl (by simp [Value.oneCell']) u1 rfl rfl ?_
      refine ol_nil ?_; refine cw_seq ?_; refine cw_region ?_
      refine ol_ev (ev_loadS (cs := [str text, pv, .bool tog, .bool false]) rfl rfl m4 rfl) rfl ?_
      refine ol_ev (ev_loadS (cs := [.int .i64 c, .int .i64 most]) rfl rfl m3 rfl) rfl ?_
      refine ol_ev (ev_loadS (cs := b.cells) rfl rfl m2 rfl) rfl ?_
      refine ol_ev (ev_move rfl) rfl ?_; refine ol_ev (ev_move rfl) rfl ?_
      refine ol_call5 (G := []) (cap := []) rfl rfl rfl rfl rfl rfl rfl (Calls_ct hE hT ps text pv tog c most b hxl lv ls hls hll hln hpv htl hpl hmost (by omega) ts err hb xs ex q hokE _ script hsc hsl) (List.Perm.refl _) ?_
      rintro v GC ⟨go, gcp, gsp, cl, rfl, hgm, hcl, hokc⟩
      refine OL.keep hgm ?_
      refine OL.less (K := [(go, clO cl gsp), (bw, strO xs sw), (b9, (⟨[.slice (some ⟨bw, 0, none⟩) xs.length cw, .int .i64 (codeOf ex)], 41, (0, 0)⟩ : HO))]) ((((List.nil_sublist _).cons_cons _).cons_cons _).cons_cons _) ?_
      refine ol_ev (ev_assign rfl) rfl ?_; refine ol_nil ?_; refine cw_seq ?_; refine cw_seq ?_; refine cw_region ?_; refine ol_ev (ev_move rfl) rfl ?_; refine ol_ev (ev_len_s rfl) rfl ?_; refine ol_ev (ev_move rfl) rfl ?_; refine ol_ev (ev_len_s rfl) rfl ?_; refine ol_ev (ev_ne rfl rfl) rfl ?_; refine ol_nil ?_
      rw [decide_eq_false (show ¬ (((cl.length : Nat) : Int) ≠ ((script.length : Nat) : Int)) by omega)]
      refine cw_if_f rfl ?_; refine cw_skip ?_; refine cw_seq ?_; refine cw_region ?_; refine ol_ev (ev_assign rfl) rfl ?_; refine ol_ev (ev_assign rfl) rfl ?_; refine ol_nil ?_; refine cw_seq ?_; refine cw_seq ?_; refine cw_region ?_; refine ol_ev (ev_assign rfl) rfl ?_; refine ol_nil ?_; refine cw_block ?_
      refine cw_loop (σ := Nat × Nat × Bool) (fun g => [(4, .slice sa script.length scap), (11, .pointer (some ⟨b9, 0, none⟩)), (13, .slice (some ⟨go, 0, none⟩) cl.length gcp), (14, .int .i64 (g.2.1 : Int)), (15, .bool g.2.2), (16, .int .i64 (g.1 : Int))]) (fun _ => [(go, clO cl gsp), (bw, strO xs sw), (b9, (⟨[.slice (some ⟨bw, 0, none⟩) xs.length cw, .int .i64 (codeOf ex)], 41, (0, 0)⟩ : HO))])
        (fun g => g.1 ≤ script.length ∧ g.2.1 ≤ xs.length ∧ OkC xs ex g.2.1 g.2.2 (script.drop g.1) (cl.drop g.1)) (fun g => script.length - g.1)
        (0, 0, false) ⟨Nat.zero_le _, Nat.zero_le _, hokc⟩ (fun a ha => ha.weak ⟨rfl, rfl, rfl, rfl, rfl, rfl, trivial⟩) rfl ?_
      rintro ⟨i, told, over⟩ ⟨hi, htold, hinv⟩
      simp only at hi htold hinv ⊢
      refine cw_seq ?_; refine cw_seq ?_; refine cw_region ?_; refine ol_ev (ev_move rfl) rfl ?_; refine ol_ev (ev_move rfl) rfl ?_; refine ol_ev (ev_len_s rfl) rfl ?_; refine ol_ev (ev_lt rfl rfl) rfl ?_; refine ol_nil ?_
      refine cw_ifd rfl (fun h0 => ?_) (fun h0 => ?_)
      · have hx : i < script.length := by omega
        have hx2 : i < cl.length := by omega
        obtain ⟨lb, loff, rfl, hcw⟩ := hscell i script[i] (List.getElem?_eq_getElem hx)
        rw [List.drop_eq_getElem_cons hx, List.drop_eq_getElem_cons hx2] at hinv
        have hcells := cl_cells cl i cl[i] gsp (List.getElem?_eq_getElem hx2)
        obtain ⟨cc, cs', hcc, hck⟩ := hinv
        injection hcc with e1 e2
        subst e2
        rw [e1] at hcells
        clear e1
        generalize script[i] = k at hcw hck
        obtain ⟨cok, ctext, cerr⟩ := cc
        simp only at hck
        generalize hks : script.drop (i + 1) = ks at hck
        generalize hcs : cl.drop (i + 1) = cs' at hck
        refine cw_skip ?_
        refine cw_cut (fun l' H' => ∃ (told' : Nat) (over' : Bool) (b17 : Nat) (o : HO), SubE l' [(4, .slice (some ⟨lb, loff, none⟩) script.length scap), (11, .pointer (some ⟨b9, 0, none⟩)), (13, .slice (some ⟨go, 0, none⟩) cl.length gcp), (14, .int .i64 (told' : Int)), (15, .bool over'), (16, .int .i64 (i : Int))] ∧ H' = (b17, o) :: [(go, clO cl gsp), (bw, strO xs sw), (b9, (⟨[.slice (some ⟨bw, 0, none⟩) xs.length cw, .int .i64 (codeOf ex)], 41, (0, 0)⟩ : HO))] ∧ told' ≤ xs.length ∧ OkC xs ex told' over' ks cs') ?_ ?_
        · refine cw_block ?_; refine cw_seq ?_; refine cw_region ?_; refine ol_ev (ev_move rfl) rfl ?_; refine ol_ev (ev_move rfl) rfl ?_
          refine ol_ev (ev_idx rfl rfl (by omega) (by omega)) rfl ?_
          refine ol_ev (ev_loadS (cs := [.bool cok, str ctext, .int .i64 cerr]) rfl rfl m0 hcells) rfl ?_
          refine ol_alloc rfl fun b17 => ?_
          refine ol_storeS (o := ⟨[.bool false, str [], .int .i64 0], 48, (0, 0)⟩) (cs := [.bool cok, str ctext, .int .i64 cerr]) rfl rfl rfl (by simp [Value.oneCell', str]) u0 rfl rfl ?_
          refine ol_nil ?_; refine cw_block ?_; refine cw_seq ?_; refine cw_region ?_; refine ol_ev (ev_move rfl) rfl ?_; refine ol_ev (ev_move rfl) rfl ?_
          refine ol_ev (ev_idx1 rfl rfl (by omega) (by omega)) rfl ?_
          skip
          refine ol_ev (ev_loadW rfl hcw) rfl ?_
          refine ol_ev (ev_eq rfl rfl) rfl ?_; refine ol_ev (ev_move rfl) rfl ?_
          by_cases hk1 : k = 1
          · rw [if_pos (.inl hk1)] at hck
            rw [decide_eq_true hk1]
            (iterate 5 (refine ol_off rfl rfl rfl rfl rfl ?_)); refine ol_ev (ev_pick_t rfl rfl) rfl ?_; refine ol_ev (ev_assign rfl) rfl ?_; refine ol_nil ?_; refine cw_if_t rfl ?_; refine cw_seq ?_
            obtain ⟨h1, h2, h3, h4⟩ := hck
            subst h1 h2
            by_cases ht0 : 0 < told
            · cases over with
              | false =>
                have hlt : told - 1 < xs.length := by omega
                have htx := h3 ht0 rfl
                rw [List.getElem?_eq_getElem hlt] at htx
                have htx' : xs[told - 1] = ctext := Option.some.inj htx
                have kx : (strO xs sw).cells[0 + (((told : Nat) : Int) - 1).toNat]? = some (str ctext) := by
                  rw [show (((told : Nat) : Int) - 1).toNat = told - 1 by omega, ← htx']; exact strO_cell hlt
                refine cw_still mixed (by kernel_rfl) ?_
                refine sl_ev (ev_move rfl) rfl ?_; refine sl_ev (ev_gt rfl rfl) rfl ?_; refine sl_ev (ev_move rfl) rfl ?_
                rw [decide_eq_true (show (0 : Int) < ((told : Nat) : Int) by omega)]
                refine sl_on rfl rfl rfl ?_; refine sl_ev (ev_move rfl) rfl ?_; refine sl_on rfl rfl rfl ?_; refine sl_ev (ev_not rfl) rfl ?_; refine sl_ev (ev_pick_t rfl rfl) rfl ?_; refine sl_ev (ev_move rfl) rfl ?_; refine sl_on rfl rfl rfl ?_; refine sl_ev (ev_fld rfl) rfl ?_; refine sl_on rfl rfl rfl ?_; refine sl_ev (ev_load rfl m0 rfl) rfl ?_; refine sl_on rfl rfl rfl ?_; refine sl_ev (ev_fld rfl) rfl ?_; refine sl_on rfl rfl rfl ?_; refine sl_ev (ev_load rfl m3 rfl) rfl ?_; refine sl_on rfl rfl rfl ?_; refine sl_ev (ev_move rfl) rfl ?_; refine sl_on rfl rfl rfl ?_; (refine sl_ev (ev_sub rfl rfl ?_) rfl ?_; (constructor <;> omega)); refine sl_on rfl rfl rfl ?_
                refine sl_ev (ev_idx1 rfl rfl (by omega) (by omega)) rfl ?_
                refine sl_on rfl rfl rfl ?_
                refine sl_ev (ev_load rfl m2 kx) rfl ?_
                refine sl_on rfl rfl rfl ?_; refine sl_ev (ev_ne_str rfl rfl) rfl ?_; refine sl_ev (ev_pick_t rfl rfl) rfl ?_; refine sl_ev (ev_move rfl) rfl ?_
                rw [decide_eq_false (show ¬ (ctext ≠ ctext) by simp)]
                refine sl_on rfl rfl rfl ?_; refine sl_ev (ev_fld rfl) rfl ?_; refine sl_on rfl rfl rfl ?_; refine sl_ev (ev_load rfl m0 rfl) rfl ?_; refine sl_ev (ev_pick_f rfl rfl) rfl ?_; refine sl_ev (ev_move rfl) rfl ?_; refine sl_on rfl rfl rfl ?_; refine sl_ev (ev_fld rfl) rfl ?_; refine sl_on rfl rfl rfl ?_; refine sl_ev (ev_load rfl m0 rfl) rfl ?_; refine sl_on rfl rfl rfl ?_; refine sl_ev (ev_ne rfl rfl) rfl ?_; refine sl_ev (ev_pick_f rfl rfl) rfl ?_; refine sl_nil ?_
                refine cw_if_f rfl ?_; refine cw_skip ?_
                exact ⟨told, false, b17, _, ⟨rfl, rfl, rfl, rfl, rfl, rfl, trivial⟩, rfl, htold, h4⟩
              | true =>
                refine cw_still mixed (by kernel_rfl) ?_
                refine sl_ev (ev_move rfl) rfl ?_; refine sl_ev (ev_gt rfl rfl) rfl ?_; refine sl_ev (ev_move rfl) rfl ?_
                rw [decide_eq_true (show (0 : Int) < ((told : Nat) : Int) by omega)]
                refine sl_on rfl rfl rfl ?_; refine sl_ev (ev_move rfl) rfl ?_; refine sl_on rfl rfl rfl ?_; refine sl_ev (ev_not rfl) rfl ?_; refine sl_ev (ev_pick_t rfl rfl) rfl ?_; refine sl_ev (ev_move rfl) rfl ?_; (iterate 9 (refine sl_off rfl rfl rfl rfl rfl ?_)); refine sl_ev (ev_pick_f rfl rfl) rfl ?_; refine sl_ev (ev_move rfl) rfl ?_; refine sl_on rfl rfl rfl ?_; refine sl_ev (ev_fld rfl) rfl ?_; refine sl_on rfl rfl rfl ?_; refine sl_ev (ev_load rfl m0 rfl) rfl ?_; refine sl_ev (ev_pick_f rfl rfl) rfl ?_; refine sl_ev (ev_move rfl) rfl ?_; refine sl_on rfl rfl rfl ?_; refine sl_ev (ev_fld rfl) rfl ?_; refine sl_on rfl rfl rfl ?_; refine sl_ev (ev_load rfl m0 rfl) rfl ?_; refine sl_on rfl rfl rfl ?_; refine sl_ev (ev_ne rfl rfl) rfl ?_; refine sl_ev (ev_pick_f rfl rfl) rfl ?_; refine sl_nil ?_
                refine cw_if_f rfl ?_; refine cw_skip ?_
                exact ⟨told, true, b17, _, ⟨rfl, rfl, rfl, rfl, rfl, rfl, trivial⟩, rfl, htold, h4⟩
            · refine cw_still mixed (by kernel_rfl) ?_
              refine sl_ev (ev_move rfl) rfl ?_; refine sl_ev (ev_gt rfl rfl) rfl ?_; refine sl_ev (ev_move rfl) rfl ?_
              rw [decide_eq_false (show ¬ (0 : Int) < ((told : Nat) : Int) by omega)]
              refine sl_off rfl rfl rfl rfl rfl ?_; refine sl_off rfl rfl rfl rfl rfl ?_; refine sl_ev (ev_pick_f rfl rfl) rfl ?_; refine sl_ev (ev_move rfl) rfl ?_; (iterate 9 (refine sl_off rfl rfl rfl rfl rfl ?_)); refine sl_ev (ev_pick_f rfl rfl) rfl ?_; refine sl_ev (ev_move rfl) rfl ?_; refine sl_on rfl rfl rfl ?_; refine sl_ev (ev_fld rfl) rfl ?_; refine sl_on rfl rfl rfl ?_; refine sl_ev (ev_load rfl m0 rfl) rfl ?_; refine sl_ev (ev_pick_f rfl rfl) rfl ?_; refine sl_ev (ev_move rfl) rfl ?_; refine sl_on rfl rfl rfl ?_; refine sl_ev (ev_fld rfl) rfl ?_; refine sl_on rfl rfl rfl ?_; refine sl_ev (ev_load rfl m0 rfl) rfl ?_; refine sl_on rfl rfl rfl ?_; refine sl_ev (ev_ne rfl rfl) rfl ?_; refine sl_ev (ev_pick_f rfl rfl) rfl ?_; refine sl_nil ?_
              refine cw_if_f rfl ?_; refine cw_skip ?_
              exact ⟨told, over, b17, _, ⟨rfl, rfl, rfl, rfl, rfl, rfl, trivial⟩, rfl, htold, h4⟩
          rw [decide_eq_false hk1]
          refine ol_on rfl rfl rfl ?_; refine ol_ev (ev_move rfl) rfl ?_; refine ol_on rfl rfl rfl ?_; refine ol_ev (ev_move rfl) rfl ?_; refine ol_on rfl rfl rfl ?_
          refine ol_ev (ev_idx1 rfl rfl (by omega) (by omega)) rfl ?_
          refine ol_on rfl rfl rfl ?_
          refine ol_ev (ev_loadW rfl hcw) rfl ?_
          refine ol_on rfl rfl rfl ?_; refine ol_ev (ev_eq rfl rfl) rfl ?_; refine ol_ev (ev_pick_f rfl rfl) rfl ?_; refine ol_ev (ev_assign rfl) rfl ?_; refine ol_nil ?_
          by_cases hk2 : k = 2
          · rw [if_pos (.inr hk2)] at hck
            rw [decide_eq_true hk2]
            refine cw_if_t rfl ?_; refine cw_seq ?_
            obtain ⟨h1, h2, h3, h4⟩ := hck
            subst h1 h2
            by_cases ht0 : 0 < told
            · cases over with
              | false =>
                have hlt : told - 1 < xs.length := by omega
                have htx := h3 ht0 rfl
                rw [List.getElem?_eq_getElem hlt] at htx
                have htx' : xs[told - 1] = ctext := Option.some.inj htx
                have kx : (strO xs sw).cells[0 + (((told : Nat) : Int) - 1).toNat]? = some (str ctext) := by
                  rw [show (((told : Nat) : Int) - 1).toNat = told - 1 by omega, ← htx']; exact strO_cell hlt
                refine cw_still mixed (by kernel_rfl) ?_
                refine sl_ev (ev_move rfl) rfl ?_; refine sl_ev (ev_gt rfl rfl) rfl ?_; refine sl_ev (ev_move rfl) rfl ?_
                rw [decide_eq_true (show (0 : Int) < ((told : Nat) : Int) by omega)]
                refine sl_on rfl rfl rfl ?_; refine sl_ev (ev_move rfl) rfl ?_; refine sl_on rfl rfl rfl ?_; refine sl_ev (ev_not rfl) rfl ?_; refine sl_ev (ev_pick_t rfl rfl) rfl ?_; refine sl_ev (ev_move rfl) rfl ?_; refine sl_on rfl rfl rfl ?_; refine sl_ev (ev_fld rfl) rfl ?_; refine sl_on rfl rfl rfl ?_; refine sl_ev (ev_load rfl m0 rfl) rfl ?_; refine sl_on rfl rfl rfl ?_; refine sl_ev (ev_fld rfl) rfl ?_; refine sl_on rfl rfl rfl ?_; refine sl_ev (ev_load rfl m3 rfl) rfl ?_; refine sl_on rfl rfl rfl ?_; refine sl_ev (ev_move rfl) rfl ?_; refine sl_on rfl rfl rfl ?_; (refine sl_ev (ev_sub rfl rfl ?_) rfl ?_; (constructor <;> omega)); refine sl_on rfl rfl rfl ?_
                refine sl_ev (ev_idx1 rfl rfl (by omega) (by omega)) rfl ?_
                refine sl_on rfl rfl rfl ?_
                refine sl_ev (ev_load rfl m2 kx) rfl ?_
                refine sl_on rfl rfl rfl ?_; refine sl_ev (ev_ne_str rfl rfl) rfl ?_; refine sl_ev (ev_pick_t rfl rfl) rfl ?_; refine sl_ev (ev_move rfl) rfl ?_
                rw [decide_eq_false (show ¬ (ctext ≠ ctext) by simp)]
                refine sl_on rfl rfl rfl ?_; refine sl_ev (ev_fld rfl) rfl ?_; refine sl_on rfl rfl rfl ?_; refine sl_ev (ev_load rfl m0 rfl) rfl ?_; refine sl_ev (ev_pick_f rfl rfl) rfl ?_; refine sl_ev (ev_move rfl) rfl ?_; refine sl_on rfl rfl rfl ?_; refine sl_ev (ev_fld rfl) rfl ?_; refine sl_on rfl rfl rfl ?_; refine sl_ev (ev_load rfl m0 rfl) rfl ?_; refine sl_on rfl rfl rfl ?_; refine sl_ev (ev_ne rfl rfl) rfl ?_; refine sl_ev (ev_pick_f rfl rfl) rfl ?_; refine sl_nil ?_
                refine cw_if_f rfl ?_; refine cw_skip ?_
                exact ⟨told, false, b17, _, ⟨rfl, rfl, rfl, rfl, rfl, rfl, trivial⟩, rfl, htold, h4⟩
              | true =>
                refine cw_still mixed (by kernel_rfl) ?_
                refine sl_ev (ev_move rfl) rfl ?_; refine sl_ev (ev_gt rfl rfl) rfl ?_; refine sl_ev (ev_move rfl) rfl ?_
                rw [decide_eq_true (show (0 : Int) < ((told : Nat) : Int) by omega)]
                refine sl_on rfl rfl rfl ?_; refine sl_ev (ev_move rfl) rfl ?_; refine sl_on rfl rfl rfl ?_; refine sl_ev (ev_not rfl) rfl ?_; refine sl_ev (ev_pick_t rfl rfl) rfl ?_; refine sl_ev (ev_move rfl) rfl ?_; (iterate 9 (refine sl_off rfl rfl rfl rfl rfl ?_)); refine sl_ev (ev_pick_f rfl rfl) rfl ?_; refine sl_ev (ev_move rfl) rfl ?_; refine sl_on rfl rfl rfl ?_; refine sl_ev (ev_fld rfl) rfl ?_; refine sl_on rfl rfl rfl ?_; refine sl_ev (ev_load rfl m0 rfl) rfl ?_; refine sl_ev (ev_pick_f rfl rfl) rfl ?_; refine sl_ev (ev_move rfl) rfl ?_; refine sl_on rfl rfl rfl ?_; refine sl_ev (ev_fld rfl) rfl ?_; refine sl_on rfl rfl rfl ?_; refine sl_ev (ev_load rfl m0 rfl) rfl ?_; refine sl_on rfl rfl rfl ?_; refine sl_ev (ev_ne rfl rfl) rfl ?_; refine sl_ev (ev_pick_f rfl rfl) rfl ?_; refine sl_nil ?_
                refine cw_if_f rfl ?_; refine cw_skip ?_
                exact ⟨told, true, b17, _, ⟨rfl, rfl, rfl, rfl, rfl, rfl, trivial⟩, rfl, htold, h4⟩
            · refine cw_still mixed (by kernel_rfl) ?_
              refine sl_ev (ev_move rfl) rfl ?_; refine sl_ev (ev_gt rfl rfl) rfl ?_; refine sl_ev (ev_move rfl) rfl ?_
              rw [decide_eq_false (show ¬ (0 : Int) < ((told : Nat) : Int) by omega)]
              refine sl_off rfl rfl rfl rfl rfl ?_; refine sl_off rfl rfl rfl rfl rfl ?_; refine sl_ev (ev_pick_f rfl rfl) rfl ?_; refine sl_ev (ev_move rfl) rfl ?_; (iterate 9 (refine sl_off rfl rfl rfl rfl rfl ?_)); refine sl_ev (ev_pick_f rfl rfl) rfl ?_; refine sl_ev (ev_move rfl) rfl ?_; refine sl_on rfl rfl rfl ?_; refine sl_ev (ev_fld rfl) rfl ?_; refine sl_on rfl rfl rfl ?_; refine sl_ev (ev_load rfl m0 rfl) rfl ?_; refine sl_ev (ev_pick_f rfl rfl) rfl ?_; refine sl_ev (ev_move rfl) rfl ?_; refine sl_on rfl rfl rfl ?_; refine sl_ev (ev_fld rfl) rfl ?_; refine sl_on rfl rfl rfl ?_; refine sl_ev (ev_load rfl m0 rfl) rfl ?_; refine sl_on rfl rfl rfl ?_; refine sl_ev (ev_ne rfl rfl) rfl ?_; refine sl_ev (ev_pick_f rfl rfl) rfl ?_; refine sl_nil ?_
              refine cw_if_f rfl ?_; refine cw_skip ?_
              exact ⟨told, over, b17, _, ⟨rfl, rfl, rfl, rfl, rfl, rfl, trivial⟩, rfl, htold, h4⟩
          rw [if_neg (by omega)] at hck
          rw [decide_eq_false hk2]
          refine cw_if_f rfl ?_; refine cw_seq ?_; refine cw_region ?_; refine ol_ev (ev_move rfl) rfl ?_; refine ol_ev (ev_move rfl) rfl ?_
          refine ol_ev (ev_idx1 rfl rfl (by omega) (by omega)) rfl ?_
          skip
          refine ol_ev (ev_loadW rfl hcw) rfl ?_
          refine ol_ev (ev_eq rfl rfl) rfl ?_; refine ol_ev (ev_assign rfl) rfl ?_; refine ol_nil ?_
          refine cw_ifd rfl (fun hk3 => ?_) (fun hk3 => ?_)
          · rw [if_pos hk3] at hck
            obtain ⟨h1, h2, h3, h4⟩ := hck
            subst h1 h2
            cases over with
            | false =>
              rw [if_neg (by simp)] at h3
              subst h3
              refine cw_seq ?_; refine cw_region ?_; refine ol_ev (ev_fld rfl) rfl ?_; refine ol_ev (ev_load rfl m0 rfl) rfl ?_; refine ol_ev (ev_move rfl) rfl ?_; refine ol_on rfl rfl rfl ?_; refine ol_ev (ev_fld rfl) rfl ?_; refine ol_on rfl rfl rfl ?_; refine ol_ev (ev_load rfl m0 rfl) rfl ?_; refine ol_on rfl rfl rfl ?_; refine ol_ev (ev_ne_str rfl rfl) rfl ?_; refine ol_ev (ev_pick_f rfl rfl) rfl ?_; refine ol_ev (ev_move rfl) rfl ?_; refine ol_on rfl rfl rfl ?_; refine ol_ev (ev_move rfl) rfl ?_; refine ol_on rfl rfl rfl ?_; refine ol_ev (ev_move rfl) rfl ?_; (iterate 5 (refine ol_off rfl rfl rfl rfl rfl ?_)); refine ol_on rfl rfl rfl ?_; refine ol_ev (ev_pick_f rfl rfl) rfl ?_; refine ol_ev (ev_pick_f rfl rfl) rfl ?_; refine ol_ev (ev_move rfl) rfl ?_; refine ol_on rfl rfl rfl ?_; refine ol_ev (ev_move rfl) rfl ?_; refine ol_on rfl rfl rfl ?_; refine ol_ev (ev_not rfl) rfl ?_; refine ol_on rfl rfl rfl ?_; refine ol_ev (ev_move rfl) rfl ?_; refine ol_on rfl rfl rfl ?_; refine ol_ev (ev_fld rfl) rfl ?_; refine ol_on rfl rfl rfl ?_; refine ol_ev (ev_load rfl m0 rfl) rfl ?_; refine ol_on rfl rfl rfl ?_; refine ol_ev (ev_ne rfl rfl) rfl ?_; refine ol_on rfl rfl rfl ?_; refine ol_ev (ev_pick_t rfl rfl) rfl ?_; refine ol_ev (ev_pick_f rfl rfl) rfl ?_; refine ol_nil ?_; refine cw_if_f rfl ?_; refine cw_skip ?_
              exact ⟨told, false, b17, _, ⟨rfl, rfl, rfl, rfl, rfl, rfl, trivial⟩, rfl, htold, h4⟩
            | true =>
              rw [if_pos rfl] at h3
              subst h3
              refine cw_seq ?_; refine cw_region ?_; refine ol_ev (ev_fld rfl) rfl ?_; refine ol_ev (ev_load rfl m0 rfl) rfl ?_; refine ol_ev (ev_move rfl) rfl ?_; refine ol_on rfl rfl rfl ?_; refine ol_ev (ev_fld rfl) rfl ?_; refine ol_on rfl rfl rfl ?_; refine ol_ev (ev_load rfl m0 rfl) rfl ?_; refine ol_on rfl rfl rfl ?_; refine ol_ev (ev_ne_str rfl rfl) rfl ?_; refine ol_ev (ev_pick_f rfl rfl) rfl ?_; refine ol_ev (ev_move rfl) rfl ?_; refine ol_on rfl rfl rfl ?_; refine ol_ev (ev_move rfl) rfl ?_; refine ol_on rfl rfl rfl ?_; refine ol_ev (ev_move rfl) rfl ?_; refine ol_on rfl rfl rfl ?_; refine ol_ev (ev_fld rfl) rfl ?_; refine ol_on rfl rfl rfl ?_; refine ol_ev (ev_load rfl m0 rfl) rfl ?_; refine ol_on rfl rfl rfl ?_; refine ol_ev (ev_fld rfl) rfl ?_; refine ol_on rfl rfl rfl ?_; refine ol_ev (ev_load rfl m3 rfl) rfl ?_; refine ol_on rfl rfl rfl ?_; refine ol_ev (ev_ne rfl rfl) rfl ?_; refine ol_on rfl rfl rfl ?_; refine ol_ev (ev_pick_t rfl rfl) rfl ?_; refine ol_ev (ev_pick_f rfl rfl) rfl ?_; refine ol_ev (ev_move rfl) rfl ?_
              rw [decide_eq_false (show ¬ (codeOf ex ≠ codeOf ex) by simp)]
              refine ol_on rfl rfl rfl ?_; refine ol_ev (ev_move rfl) rfl ?_; refine ol_on rfl rfl rfl ?_; refine ol_ev (ev_not rfl) rfl ?_; refine ol_on rfl rfl rfl ?_; refine ol_ev (ev_move rfl) rfl ?_; (iterate 3 (refine ol_off rfl rfl rfl rfl rfl ?_)); refine ol_on rfl rfl rfl ?_; refine ol_ev (ev_pick_f rfl rfl) rfl ?_; refine ol_ev (ev_pick_f rfl rfl) rfl ?_; refine ol_nil ?_; refine cw_if_f rfl ?_; refine cw_skip ?_
              exact ⟨told, true, b17, _, ⟨rfl, rfl, rfl, rfl, rfl, rfl, trivial⟩, rfl, htold, h4⟩
          rw [if_neg hk3] at hck
          obtain ⟨h1, h2, h3⟩ := hck
          subst h1 h2
          cases over with
          | true =>
            rw [if_pos rfl] at h3
            by_cases hex : ex = none
            · obtain ⟨rfl, h4⟩ := h3 hex
              subst hex
              refine cw_seq ?_; refine cw_region ?_; refine ol_ev (ev_move rfl) rfl ?_; refine ol_ev (ev_assign rfl) rfl ?_; refine ol_nil ?_; refine cw_if_t rfl ?_; refine cw_seq ?_; refine cw_seq ?_; refine cw_region ?_; refine ol_ev (ev_fld rfl) rfl ?_; refine ol_ev (ev_load rfl m0 rfl) rfl ?_; refine ol_ev (ev_move rfl) rfl ?_; (iterate 3 (refine ol_off rfl rfl rfl rfl rfl ?_)); refine ol_ev (ev_pick_f rfl rfl) rfl ?_; refine ol_ev (ev_move rfl) rfl ?_; refine ol_on rfl rfl rfl ?_; refine ol_ev (ev_fld rfl) rfl ?_; refine ol_on rfl rfl rfl ?_; refine ol_ev (ev_load rfl m0 rfl) rfl ?_; refine ol_on rfl rfl rfl ?_; refine ol_ev (ev_ne_str rfl rfl) rfl ?_; refine ol_ev (ev_pick_f rfl rfl) rfl ?_; refine ol_ev (ev_move rfl) rfl ?_; refine ol_on rfl rfl rfl ?_; refine ol_ev (ev_fld rfl) rfl ?_; refine ol_on rfl rfl rfl ?_; refine ol_ev (ev_load rfl m0 rfl) rfl ?_; refine ol_on rfl rfl rfl ?_; refine ol_ev (ev_ne rfl rfl) rfl ?_; refine ol_ev (ev_pick_f rfl rfl) rfl ?_; refine ol_nil ?_; refine cw_if_f rfl ?_; refine cw_skip ?_; refine cw_seq ?_; refine cw_region ?_; refine ol_ev (ev_fld rfl) rfl ?_; refine ol_ev (ev_load rfl m3 rfl) rfl ?_; refine ol_ev (ev_ne rfl rfl) rfl ?_; refine ol_nil ?_; refine cw_if_f rfl ?_; refine cw_skip ?_
              exact ⟨told, true, b17, _, ⟨rfl, rfl, rfl, rfl, rfl, rfl, trivial⟩, rfl, htold, h4⟩
            · have hne : ¬ codeOf ex = 0 := by rcases hokE with h | h | h | h; exact absurd h hex; (rw [h]; decide); (rw [h]; decide); (rw [h]; decide)
              cases cok with
              | true =>
                refine cw_seq ?_; refine cw_region ?_; refine ol_ev (ev_move rfl) rfl ?_; refine ol_ev (ev_assign rfl) rfl ?_; refine ol_nil ?_; refine cw_if_t rfl ?_; refine cw_seq ?_; refine cw_seq ?_; refine cw_region ?_; refine ol_ev (ev_fld rfl) rfl ?_; refine ol_ev (ev_load rfl m0 rfl) rfl ?_; refine ol_ev (ev_move rfl) rfl ?_; refine ol_on rfl rfl rfl ?_; refine ol_ev (ev_fld rfl) rfl ?_; refine ol_on rfl rfl rfl ?_; refine ol_ev (ev_load rfl m3 rfl) rfl ?_; refine ol_on rfl rfl rfl ?_; refine ol_ev (ev_eq rfl rfl) rfl ?_; refine ol_ev (ev_pick_t rfl rfl) rfl ?_; refine ol_ev (ev_move rfl) rfl ?_
                rw [decide_eq_false hne]
                refine ol_on rfl rfl rfl ?_; refine ol_ev (ev_fld rfl) rfl ?_; refine ol_on rfl rfl rfl ?_; refine ol_ev (ev_load rfl m0 rfl) rfl ?_; refine ol_on rfl rfl rfl ?_; refine ol_ev (ev_ne_str rfl rfl) rfl ?_; refine ol_ev (ev_pick_f rfl rfl) rfl ?_; refine ol_ev (ev_move rfl) rfl ?_; refine ol_on rfl rfl rfl ?_; refine ol_ev (ev_fld rfl) rfl ?_; refine ol_on rfl rfl rfl ?_; refine ol_ev (ev_load rfl m0 rfl) rfl ?_; refine ol_on rfl rfl rfl ?_; refine ol_ev (ev_ne rfl rfl) rfl ?_; refine ol_ev (ev_pick_f rfl rfl) rfl ?_; refine ol_nil ?_; refine cw_if_f rfl ?_; refine cw_skip ?_; refine cw_seq ?_; refine cw_region ?_; refine ol_ev (ev_fld rfl) rfl ?_; refine ol_ev (ev_load rfl m3 rfl) rfl ?_; refine ol_ev (ev_ne rfl rfl) rfl ?_; refine ol_nil ?_
                rw [decide_eq_true (show codeOf ex ≠ 0 from hne)]
                refine cw_if_t rfl ?_; refine cw_seq ?_; refine cw_region ?_; refine ol_ev (ev_assign rfl) rfl ?_; refine ol_nil ?_; refine cw_ret ?_
                exact ⟨_, res1 rfl rfl, rfl⟩
              | false =>
                refine cw_seq ?_; refine cw_region ?_; refine ol_ev (ev_move rfl) rfl ?_; refine ol_ev (ev_assign rfl) rfl ?_; refine ol_nil ?_; refine cw_if_t rfl ?_; refine cw_seq ?_; refine cw_seq ?_; refine cw_region ?_; refine ol_ev (ev_fld rfl) rfl ?_; refine ol_ev (ev_load rfl m0 rfl) rfl ?_; refine ol_ev (ev_move rfl) rfl ?_; (iterate 3 (refine ol_off rfl rfl rfl rfl rfl ?_)); refine ol_ev (ev_pick_f rfl rfl) rfl ?_; refine ol_ev (ev_move rfl) rfl ?_; refine ol_on rfl rfl rfl ?_; refine ol_ev (ev_fld rfl) rfl ?_; refine ol_on rfl rfl rfl ?_; refine ol_ev (ev_load rfl m0 rfl) rfl ?_; refine ol_on rfl rfl rfl ?_; refine ol_ev (ev_ne_str rfl rfl) rfl ?_; refine ol_ev (ev_pick_f rfl rfl) rfl ?_; refine ol_ev (ev_move rfl) rfl ?_; refine ol_on rfl rfl rfl ?_; refine ol_ev (ev_fld rfl) rfl ?_; refine ol_on rfl rfl rfl ?_; refine ol_ev (ev_load rfl m0 rfl) rfl ?_; refine ol_on rfl rfl rfl ?_; refine ol_ev (ev_ne rfl rfl) rfl ?_; refine ol_ev (ev_pick_f rfl rfl) rfl ?_; refine ol_nil ?_; refine cw_if_f rfl ?_; refine cw_skip ?_; refine cw_seq ?_; refine cw_region ?_; refine ol_ev (ev_fld rfl) rfl ?_; refine ol_ev (ev_load rfl m3 rfl) rfl ?_; refine ol_ev (ev_ne rfl rfl) rfl ?_; refine ol_nil ?_
                rw [decide_eq_true (show codeOf ex ≠ 0 from hne)]
                refine cw_if_t rfl ?_; refine cw_seq ?_; refine cw_region ?_; refine ol_ev (ev_assign rfl) rfl ?_; refine ol_nil ?_; refine cw_ret ?_
                exact ⟨_, res1 rfl rfl, rfl⟩
          | false =>
            rw [if_neg (by simp)] at h3
            obtain ⟨rfl, h4⟩ := h3
            refine cw_seq ?_; refine cw_region ?_; refine ol_ev (ev_move rfl) rfl ?_; refine ol_ev (ev_assign rfl) rfl ?_; refine ol_nil ?_; refine cw_if_f rfl ?_; refine cw_seq ?_; refine cw_seq ?_; refine cw_region ?_; refine ol_ev (ev_fld rfl) rfl ?_; refine ol_ev (ev_load rfl m0 rfl) rfl ?_; refine ol_ev (ev_move rfl) rfl ?_; refine ol_ev (ev_fld rfl) rfl ?_; refine ol_ev (ev_load rfl m3 rfl) rfl ?_; refine ol_ev (ev_len_s rfl) rfl ?_; refine ol_ev (ev_lt rfl rfl) rfl ?_
            refine ol_ev (ev_neb (by kernel_rfl) rfl rfl) rfl ?_
            by_cases hlt : told < xs.length
            · rw [if_pos hlt, decide_eq_false (show ¬ ¬ told < xs.length by simpa using hlt)] at h4
              rw [decide_eq_true hlt, decide_eq_true (show ((told : Nat) : Int) < ((xs.length : Nat) : Int) by omega)]
              refine ol_ev (ev_move rfl) rfl ?_; refine ol_on rfl rfl rfl ?_; refine ol_ev (ev_fld rfl) rfl ?_; refine ol_on rfl rfl rfl ?_; refine ol_ev (ev_load rfl m0 rfl) rfl ?_; refine ol_on rfl rfl rfl ?_; refine ol_ev (ev_ne_str rfl rfl) rfl ?_; refine ol_ev (ev_pick_f rfl rfl) rfl ?_; refine ol_ev (ev_move rfl) rfl ?_; refine ol_on rfl rfl rfl ?_; refine ol_ev (ev_fld rfl) rfl ?_; refine ol_on rfl rfl rfl ?_; refine ol_ev (ev_load rfl m0 rfl) rfl ?_; refine ol_on rfl rfl rfl ?_; refine ol_ev (ev_ne rfl rfl) rfl ?_; refine ol_ev (ev_pick_f rfl rfl) rfl ?_; refine ol_nil ?_; refine cw_if_f rfl ?_; refine cw_skip ?_; refine cw_seq ?_; refine cw_region ?_; refine ol_ev (ev_fld rfl) rfl ?_; refine ol_ev (ev_load rfl m0 rfl) rfl ?_; refine ol_nil ?_; refine cw_if_t rfl ?_; refine cw_region ?_; refine ol_ev (ev_move rfl) rfl ?_; (refine ol_ev (ev_add rfl rfl ?_) rfl ?_; (constructor <;> omega)); refine ol_ev (ev_assign rfl) rfl ?_; refine ol_nil ?_
              exact ⟨told + 1, false, b17, _, ⟨rfl, rfl, rfl, rfl, rfl, rfl, trivial⟩, rfl, hlt, h4⟩
            · rw [if_neg hlt, decide_eq_true (show ¬ told < xs.length from hlt)] at h4
              rw [decide_eq_false hlt, decide_eq_false (show ¬ ((told : Nat) : Int) < ((xs.length : Nat) : Int) by omega)]
              refine ol_ev (ev_move rfl) rfl ?_; refine ol_on rfl rfl rfl ?_; refine ol_ev (ev_fld rfl) rfl ?_; refine ol_on rfl rfl rfl ?_; refine ol_ev (ev_load rfl m0 rfl) rfl ?_; refine ol_on rfl rfl rfl ?_; refine ol_ev (ev_ne_str rfl rfl) rfl ?_; refine ol_ev (ev_pick_f rfl rfl) rfl ?_; refine ol_ev (ev_move rfl) rfl ?_; refine ol_on rfl rfl rfl ?_; refine ol_ev (ev_fld rfl) rfl ?_; refine ol_on rfl rfl rfl ?_; refine ol_ev (ev_load rfl m0 rfl) rfl ?_; refine ol_on rfl rfl rfl ?_; refine ol_ev (ev_ne rfl rfl) rfl ?_; refine ol_ev (ev_pick_f rfl rfl) rfl ?_; refine ol_nil ?_; refine cw_if_f rfl ?_; refine cw_skip ?_; refine cw_seq ?_; refine cw_region ?_; refine ol_ev (ev_fld rfl) rfl ?_; refine ol_ev (ev_load rfl m0 rfl) rfl ?_; refine ol_nil ?_; refine cw_if_f rfl ?_; refine cw_region ?_; refine ol_ev (ev_assign rfl) rfl ?_; refine ol_nil ?_
              exact ⟨told, true, b17, _, ⟨rfl, rfl, rfl, rfl, rfl, rfl, trivial⟩, rfl, htold, h4⟩
        · rintro l' H' ⟨told', over', b17, o, hl', rfl, ht', hok'⟩
          refine CW.weak hl' ?_
          clear hl'
          refine cw_region ?_
          refine OL.less (List.sublist_cons_self _ _) ?_
          refine ol_ev (ev_move rfl) rfl ?_; (refine ol_ev (ev_add rfl rfl ?_) rfl ?_; (constructor <;> omega)); refine ol_ev (ev_assign rfl) rfl ?_; refine ol_nil ?_
          exact ⟨(i + 1, told', over'), ⟨hx, ht', by rw [hks, hcs]; exact hok'⟩, ⟨rfl, rfl, rfl, rfl, rfl, rfl, trivial⟩, rfl, by show script.length - (i + 1) < script.length - i; omega⟩
      · refine cw_exit ?_; refine cw_seq ?_; refine cw_region ?_; refine ol_ev (ev_assign rfl) rfl ?_; refine ol_nil ?_; refine cw_ret ?_
        exact ⟨_, res1 rfl rfl, rfl⟩
end
end Go.HE
