/- ScanBytes on its own, by contracts. No condition. -/
import Derived.Test.YtkaomlklllinlaaDoorScan0
import Derived.Test.YtkaomlklllinlaaDoorFloat
set_option maxRecDepth 100000
set_option maxHeartbeats 4000000
namespace Go.HE
open Go.RowKit Go.Proofs

section
variable {P : Program} {C : Cx} {l : Env} {H : Heap} {ops : Array Oper} {rest : List Oper} {d : Nat} {ty : TypeId} {pos : String} {af : Array Edge} {Q : Exit → Env → Heap → Prop} {x : Operand} {t e dt : TypeId}
/-- A text's bytes. -/
theorem ol_bytes {s : List UInt8} [hS : TStr P t] [hT : TSlice P dt e] [hB : TInt P e .u8] (hx : ev l x = some (str s)) (hd : Nat.ble (d + 1) C.n = true)
    (k : ∀ b sp z, OL P C ops rest ((d, .slice (some ⟨b, 0, none⟩) s.length (s.length + sp)) :: l) ((b, ⟨bcells s ++ List.replicate sp (.int .u8 0), e, z⟩) :: H) Q) :
    OL P C ops (⟨some d, .convert t dt x, ty, pos, af, none⟩ :: rest) l H Q := by
  refine ol_val (R := fun u K => ∃ b sp z, u = .slice (some ⟨b, 0, none⟩) s.length (s.length + sp) ∧ K = (b, ⟨bcells s ++ List.replicate sp (.int .u8 0), e, z⟩) :: H) hd (fun a w hs hw => ?_) (by rintro u K ⟨b, sp, z, rfl, rfl⟩; exact k b sp z)
  have hsz := size_mk s
  have hge := grownCap_ge w (ByteArray.mk s.toArray).size 0 e
  have hw' : C.st H { w with drawn := w.drawn + 1 } := St.drew hw
  refine ⟨_, _, _, ?_, St.alloc hw' ⟨bcells s ++ List.replicate (grownCap w s.length 0 e - s.length) (.int .u8 0), e, (grownCap w s.length 0 e, grownCap w s.length 0 e + 1)⟩, w.heap.size, grownCap w s.length 0 e - s.length, _, rfl, rfl⟩
  have h := run_bytes_of_string (P := P) w t dt e ⟨s.toArray⟩ hS.h hT.h hB.h
  rw [hsz] at h hge
  have hrow : bytesRow ⟨s.toArray⟩ (grownCap w s.length 0 e) = (bcells s ++ List.replicate (grownCap w s.length 0 e - s.length) (Value.int .u8 0)).toArray := by
    simp [bytesRow, hsz, bcells, bv]
  have hs2 : (bcells s ++ List.replicate (grownCap w s.length 0 e - s.length) (Value.int .u8 0)).toArray.size = grownCap w s.length 0 e := by simp; omega
  rw [hrow, hs2] at h
  have e2 : s.length + (grownCap w s.length 0 e - s.length) = grownCap w s.length 0 e := by omega
  simp only [execOp, hs.eval hx, Sem.run_bind, str]
  rw [h, e2]
  rfl
end

section
variable {W : World}
/-- ScanBytes. -/
theorem scanBytes_ct (bb off n dcap : Nat) (atEOF : Bool) (H : Heap) (h : n ≠ 0 ∨ atEOF = true) (hn : n ≤ dcap) :
    Ct Tryd.prog W 60 #[.slice (some ⟨bb, off, none⟩) n dcap, .bool atEOF] H
      (fun v H' => H' = H ∧ v = if n = 0 then .tuple #[.int .i64 0, .slice none 0 0, .nilIface] else .tuple #[.int .i64 1, .slice (some ⟨bb, off, none⟩) 1 dcap, .nilIface]) := by
  refine ct_of_cw (vs := [_, _]) Tryd.func60 rfl rfl fun w1 => ?_
  have last : n ≠ 0 → CW Tryd.prog ⟨W, w1, H.map (·.1), Tryd.f60.ntmps⟩ (nv (bodyOf Tryd.f60) [false, true, true]) [(0, .slice (some ⟨bb, off, none⟩) n dcap)] H
      (thenQ (fun l' H' => CW Tryd.prog ⟨W, w1, H.map (·.1), Tryd.f60.ntmps⟩ .ret l' H' (retQ Tryd.prog ⟨W, w1, H.map (·.1), Tryd.f60.ntmps⟩ Tryd.f60 (fun v H' => H' = H ∧ v = if n = 0 then .tuple #[.int .i64 0, .slice none 0 0, .nilIface] else .tuple #[.int .i64 1, .slice (some ⟨bb, off, none⟩) 1 dcap, .nilIface]))) (retQ Tryd.prog ⟨W, w1, H.map (·.1), Tryd.f60.ntmps⟩ Tryd.f60 (fun v H' => H' = H ∧ v = if n = 0 then .tuple #[.int .i64 0, .slice none 0 0, .nilIface] else .tuple #[.int .i64 1, .slice (some ⟨bb, off, none⟩) 1 dcap, .nilIface]))) := fun hn0 => by
    refine cw_still mixed (by kernel_rfl) ?_
    refine sl_ev (ev_move rfl) rfl ?_
    refine sl_ev (ev_slice_any rfl rfl rfl (by omega) (by omega) (by omega)) rfl ?_
    (iterate 3 (refine sl_ev (ev_assign rfl) rfl ?_)); refine sl_nil ?_
    refine cw_ret ?_
    refine ⟨_, res3 rfl rfl rfl rfl, rfl, ?_⟩
    rw [if_neg hn0, if_neg (by simp; omega)]
    rfl
  cases atEOF with
  | false =>
    refine cw_seq ?_; refine cw_region ?_; (iterate 3 (refine ol_ev (ev_assign rfl) rfl ?_)); refine ol_nil ?_; refine cw_seq ?_; refine cw_seq ?_; refine cw_region ?_; refine ol_ev (ev_move rfl) rfl ?_; refine ol_ev (ev_move rfl) rfl ?_; (iterate 3 (refine ol_off rfl rfl rfl rfl rfl ?_)); refine ol_ev (ev_pick_f rfl rfl) rfl ?_; refine ol_nil ?_; refine cw_if_f rfl ?_; refine cw_skip ?_; refine cw_seq ?_
    refine CW.weak (r := [(0, .slice (some ⟨bb, off, none⟩) n dcap)]) ⟨rfl, trivial⟩ ?_
    exact last (by simpa using h)
  | true =>
    refine cw_seq ?_; refine cw_region ?_; (iterate 3 (refine ol_ev (ev_assign rfl) rfl ?_)); refine ol_nil ?_; refine cw_seq ?_; refine cw_seq ?_; refine cw_region ?_; refine ol_ev (ev_move rfl) rfl ?_; refine ol_ev (ev_move rfl) rfl ?_; refine ol_on rfl rfl rfl ?_; refine ol_ev (ev_move rfl) rfl ?_; refine ol_on rfl rfl rfl ?_; refine ol_ev (ev_len_s rfl) rfl ?_; refine ol_on rfl rfl rfl ?_; refine ol_ev (ev_eq rfl rfl) rfl ?_; refine ol_ev (ev_pick_t rfl rfl) rfl ?_; refine ol_nil ?_
    by_cases h0 : n = 0
    · subst h0
      rw [decide_eq_true (by simp : ((0 : Nat) : Int) = 0)]
      refine cw_if_t rfl ?_; refine cw_seq ?_; refine cw_region ?_; (iterate 3 (refine ol_ev (ev_assign rfl) rfl ?_)); refine ol_nil ?_; refine cw_ret ?_
      refine ⟨_, res3 rfl rfl rfl rfl, rfl, ?_⟩
      rw [if_pos rfl]
    · rw [decide_eq_false (by omega : ¬ ((n : Int) = 0))]
      refine cw_if_f rfl ?_; refine cw_skip ?_; refine cw_seq ?_
      refine CW.weak (r := [(0, .slice (some ⟨bb, off, none⟩) n dcap)]) ⟨rfl, trivial⟩ ?_
      exact last h0

theorem code_nil_ct : Ct Tryd.prog W 44 #[.nilIface] [] (fun v H' => v = .int .i64 0 ∧ H' = []) := by
  refine ct_of_cw (vs := [_]) Tryd.func44 rfl rfl fun w1 => ?_
  refine cw_seq ?_; refine cw_region ?_; refine ol_ev (ev_assign rfl) rfl ?_; refine ol_nil ?_; refine cw_seq ?_; refine cw_seq ?_; refine cw_region ?_; refine ol_ev (ev_move rfl) rfl ?_; refine ol_ev (ev_eqnil_n rfl) rfl ?_; refine ol_nil ?_; refine cw_if_t rfl ?_; refine cw_seq ?_; refine cw_region ?_; refine ol_ev (ev_assign rfl) rfl ?_; refine ol_nil ?_; refine cw_ret ?_
  exact ⟨_, res1 rfl rfl, rfl, rfl⟩

end
end Go.HE
