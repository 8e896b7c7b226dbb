/- ScanLines and ScanWords, by contracts. Conditions: the tables of UTF-8 are as start-up lays them. -/
import Derived.Test.YtkaomlklllinlaaDoorShelf
import Derived.Test.YtkaomlklllinlaaDoorLayD
set_option maxRecDepth 100000
set_option maxHeartbeats 4000000
namespace Go.HE
open Go.RowKit Go.Proofs Go.Shelf

section
variable {W : World} {E : Nat → Addr}
theorem nlAt_cons (b : UInt8) (d : List UInt8) : nlAt (b :: d) = if b = 10 then some 0 else (nlAt d).map (fun i => i + 1) := by
  unfold nlAt
  rw [List.findIdx?_cons]
  by_cases hb : b = 10
  · rw [if_pos hb, decide_eq_true hb]; rfl
  · rw [if_neg hb, decide_eq_false hb]; rfl
theorem indexByte_nl : ∀ d : List UInt8, Lib.indexByte d 10 = match nlAt d with | some i => ((i : Nat) : Int) | none => -1
  | [] => rfl
  | b :: d => by
    have ih := indexByte_nl d
    rw [nlAt_cons]
    unfold Lib.indexByte
    by_cases hb : b = 10
    · rw [if_pos hb, if_pos (by simpa using hb)]; rfl
    · rw [if_neg hb, if_neg (by simpa using hb)]
      cases hn : nlAt d with
      | none => rw [hn] at ih; rw [ih]; rfl
      | some i =>
        rw [hn] at ih
        simp only at ih
        rw [ih, if_neg (by simp)]
        show ((i : Nat) : Int) + 1 = ((i + 1 : Nat) : Int)
        omega
theorem bytesOf_nat (d : List UInt8) : Lib.bytesOf (d.map fun b => ((b.toNat : Nat) : Int)) = d := by
  unfold Lib.bytesOf
  rw [List.map_map]
  conv => rhs; rw [← List.map_id d]
  apply List.map_congr_left
  intro b _
  show UInt8.ofNat (((b.toNat : Nat) : Int)).toNat = b
  rw [show (((b.toNat : Nat) : Int)).toNat = b.toNat by omega]
  simp
theorem cells_own {H : Heap} {w : World} (h : Own H w) {b off : Nat} {o : HO} (hm : (b, o) ∈ H) {d : List UInt8} (hd : (o.cells.drop off).take d.length = bcells d) {i : Nat} (hi : i < d.length) : w.cell? ⟨b, off + i, none⟩ = some (bv d[i]) := by
  rw [h.cell hm]; exact cell_at hd hi

theorem index_ct (H : Heap) (b off cap : Nat) (o : HO) (d : List UInt8) (hm : (b, o) ∈ H) (hd : (o.cells.drop off).take d.length = bcells d) :
    Ct Tryd.prog W 81 #[.slice (some ⟨b, off, none⟩) d.length cap, .int .u8 10] H (fun v H' => v = .int .i64 (Lib.indexByte d 10) ∧ H' = H) := by
  refine ⟨fun w h1 h2 h3 => ?_⟩
  have := Any.bytes_IndexByte ix b off d.length cap (d.map fun b => ((b.toNat : Nat) : Int)) 10 w (by simp) (fun i hi => by
    rw [cells_own h2 hm hd hi]
    simp [bv, hi])
  rw [bytesOf_nat] at this
  refine Calls.mono this ?_
  rintro e w' ⟨rfl, rfl⟩
  exact ⟨_, H, rfl, ⟨rfl, rfl⟩, St.self h1 h2 h3⟩

theorem St.below {W w w' : World} {H : Heap} (h1 : Below W.heap.size W w) (h2 : Own H w) (h3 : ∀ b o, (b, o) ∈ H → W.heap.size ≤ b) (h : Below w.heap.size w w') : St W w (H.map (·.1)) H w' := by
  refine ⟨⟨h.os.trans h1.os, h.tape.trans h1.tape, h.output.trans h1.output, Nat.le_trans h1.size h.size, fun k hk => ?_⟩, ⟨fun b o hm => ?_, h2.nodup⟩, h3, h.size, fun b hb _ => h.block b hb, fun b o hm => .inl (List.mem_map.2 ⟨(b, o), hm, rfl⟩)⟩
  · rw [h.block k (Nat.lt_of_lt_of_le hk h1.size)]; exact h1.block k hk
  · rw [h.block b (h2.lt hm)]; exact h2.has b o hm
theorem get_toArray (d : List UInt8) (i : Nat) : (ByteArray.mk d.toArray).get! i = d.getD i 0 := by
  show d.toArray[i]! = _
  simp only [List.getElem!_toArray, List.getElem!_eq_getElem?_getD, List.getD_eq_getElem?_getD]
  rfl
theorem dec_go {d : List UInt8} (h : d ≠ []) : Lib.decodeGo (ByteArray.mk d.toArray) = dec d := by
  have hp := List.length_pos_iff.2 h
  have hs : (ByteArray.mk d.toArray).size = d.length := by show d.toArray.size = _; simp
  unfold Lib.decodeGo
  rw [if_neg (by omega), Lib.decode_at, hs, get_toArray, get_toArray, get_toArray, get_toArray]
  rfl
theorem decode_ct (hT : Lib.Utf8Tabs 10 11 W) (H : Heap) (b off cap : Nat) (o : HO) (d : List UInt8) (h0 : d ≠ []) (hm : (b, o) ∈ H) (hd : (o.cells.drop off).take d.length = bcells d) :
    Ct Tryd.prog W 83 #[.slice (some ⟨b, off, none⟩) d.length cap] H (fun v H' => v = .tuple #[.int .i32 (((dec d).1 : Nat) : Int), .int .i64 (((dec d).2 : Nat) : Int)] ∧ H' = H) := by
  refine ⟨fun w h1 h2 h3 => ?_⟩
  have hs : (ByteArray.mk d.toArray).size = d.length := by show d.toArray.size = _; simp
  have hold : ∀ {a : Addr} {v : Value}, W.cell? a = some v → w.cell? a = some v := fun hc => (St.self (H := []) h1 ⟨fun _ _ h => (by cases h), List.nodup_nil⟩ (fun _ _ h => (by cases h))).cellW hc
  have := Any7.utf8_DecodeRune dr (ByteArray.mk d.toArray) b off cap w ⟨fun c hc => hold (hT.1 c hc), fun i hi => ⟨hold (hT.2 i hi).1, hold (hT.2 i hi).2⟩⟩ (fun j hj => by
    rw [hs] at hj
    rw [cells_own h2 hm hd hj, get_toArray]
    simp [bv, List.getD_eq_getElem?_getD, hj])
  rw [hs, dec_go h0] at this
  refine Calls.mono this ?_
  rintro e w' ⟨rfl, hb⟩
  exact ⟨_, H, rfl, ⟨rfl, rfl⟩, St.below h1 h2 h3 hb⟩

theorem dropCR_ct (H : Heap) (tv : Value) (t : List UInt8) (h : TokAt H tv t) (hbig : t.length ≤ 140737488355328) : Ct Tryd.prog W 82 #[tv] H (fun v H' => H' = H ∧ TokAt H v (dropC t)) := by
  obtain ⟨b, off, c, o, rfl, h2, h3, h4, h5⟩ := h
  refine ct_of_cw (vs := [_]) Tryd.func82 rfl rfl fun w1 => ?_
  refine cw_seq ?_; refine cw_region ?_; refine ol_ev (ev_assign rfl) rfl ?_; refine ol_nil ?_; refine cw_seq ?_; refine cw_seq ?_; refine cw_region ?_; refine ol_ev (ev_move rfl) rfl ?_; refine ol_ev (ev_len_s rfl) rfl ?_; refine ol_ev (ev_gt rfl rfl) rfl ?_; refine ol_ev (ev_move rfl) rfl ?_
  by_cases h0 : t = []
  · subst h0
    (iterate 7 (refine ol_off rfl rfl rfl rfl rfl ?_)); refine ol_ev (ev_pick_f rfl rfl) rfl ?_; refine ol_nil ?_; refine cw_if_f rfl ?_; refine cw_skip ?_; refine cw_seq ?_; refine cw_region ?_; refine ol_ev (ev_move rfl) rfl ?_; refine ol_ev (ev_assign rfl) rfl ?_; refine ol_nil ?_; refine cw_ret ?_
    exact ⟨_, res1 rfl rfl, rfl, b, off, c, o, rfl, h2, h3, h4, h5⟩
  have hp := List.length_pos_iff.2 h0
  rw [decide_eq_true (show (0 : Int) < ((t.length : Nat) : Int) by omega)]
  have hlt : t.length - 1 < t.length := by omega
  have k1 : o.cells[off + (((t.length : Nat) : Int) - 1).toNat]? = some (bv t[t.length - 1]) := by
    rw [show (((t.length : Nat) : Int) - 1).toNat = t.length - 1 by omega]
    exact cell_at h3 hlt
  have hlast : t.getLast? = some t[t.length - 1] := by rw [List.getLast?_eq_getElem?, List.getElem?_eq_getElem hlt]
  refine ol_on rfl rfl rfl ?_; refine ol_ev (ev_move rfl) rfl ?_; refine ol_on rfl rfl rfl ?_; refine ol_ev (ev_move rfl) rfl ?_; refine ol_on rfl rfl rfl ?_; refine ol_ev (ev_len_s rfl) rfl ?_; refine ol_on rfl rfl rfl ?_; (refine ol_ev (ev_sub rfl rfl ?_) rfl ?_; (constructor <;> omega)); refine ol_on rfl rfl rfl ?_
  refine ol_ev (ev_idx1 rfl rfl (by omega) (by omega)) rfl ?_
  refine ol_on rfl rfl rfl ?_
  refine ol_ev (ev_load rfl h2 k1) rfl ?_
  refine ol_on rfl rfl rfl ?_; refine ol_ev (ev_eq rfl rfl) rfl ?_; refine ol_ev (ev_pick_t rfl rfl) rfl ?_; refine ol_nil ?_
  refine cw_ifd rfl (fun h6 => ?_) (fun h6 => ?_)
  · have hc : t[t.length - 1] = 13 := (bv_dec _ 13).1 h6
    have hdc : dropC t = t.dropLast := by unfold dropC; rw [if_pos (by rw [hlast, hc])]
    refine cw_seq ?_; refine cw_region ?_; refine ol_ev (ev_move rfl) rfl ?_; refine ol_ev (ev_move rfl) rfl ?_; refine ol_ev (ev_len_s rfl) rfl ?_; (refine ol_ev (ev_sub rfl rfl ?_) rfl ?_; (constructor <;> omega))
    refine ol_ev (ev_slice rfl rfl rfl (by omega) (by omega) (by omega)) rfl ?_
    have e0 : (if c = (0 : Int).toNat then off else off + (0 : Int).toNat) = off := by split <;> rfl
    rw [e0]
    refine ol_ev (ev_assign rfl) rfl ?_; refine ol_nil ?_; refine cw_ret ?_
    refine ⟨_, res1 rfl rfl, rfl, b, off, c, o, ?_, h2, ?_, h4, ?_⟩
    · rw [hdc, List.length_dropLast]
      rw [show (((t.length : Nat) : Int) - 1).toNat - (0 : Int).toNat = t.length - 1 by omega]
      rfl
    · rw [hdc, List.length_dropLast]
      have := congrArg (List.take (t.length - 1)) h3
      rw [List.take_take, Nat.min_eq_left (by omega), bcells_take] at this
      rw [this, List.dropLast_eq_take]
    · rw [hdc, List.length_dropLast]; omega
  · have hc : t[t.length - 1] ≠ 13 := fun h => h6 ((bv_dec _ 13).2 h)
    have hdc : dropC t = t := by unfold dropC; rw [if_neg (by rw [hlast]; simpa using hc)]
    refine cw_skip ?_; refine cw_seq ?_; refine cw_region ?_; refine ol_ev (ev_move rfl) rfl ?_; refine ol_ev (ev_assign rfl) rfl ?_; refine ol_nil ?_; refine cw_ret ?_
    rw [hdc]
    exact ⟨_, res1 rfl rfl, rfl, b, off, c, o, rfl, h2, h3, h4, h5⟩

theorem isSpace_ct (r : Int) : Ct Tryd.prog W 84 #[.int .i32 r] [] (fun v _ => v = .bool (isSp r)) := by
  refine ct_of_cw (vs := [_]) Tryd.func84 rfl rfl fun w1 => ?_
  by_cases hs : r = 32 ∨ (9 ≤ r ∧ r ≤ 13) ∨ r = 133 ∨ r = 160 ∨ (8192 ≤ r ∧ r ≤ 8202) ∨ r = 5760 ∨ r = 8232 ∨ r = 8233 ∨ r = 8239 ∨ r = 8287 ∨ r = 12288
  · have hv : isSp r = true := decide_eq_true hs
    rw [hv]
    have hs2 : r = 32 ∨ r = 9 ∨ r = 10 ∨ r = 11 ∨ r = 12 ∨ r = 13 ∨ r = 133 ∨ r = 160 ∨ r = 5760 ∨ r = 8232 ∨ r = 8233 ∨ r = 8239 ∨ r = 8287 ∨ r = 12288 ∨ (8192 ≤ r ∧ r ≤ 8202) := by omega
    clear hs hv
    rcases hs2 with rfl | rfl | rfl | rfl | rfl | rfl | rfl | rfl | rfl | rfl | rfl | rfl | rfl | rfl | hs2
    iterate 14 (· (repeat (first | refine ol_ev (ev_move rfl) rfl ?_ | refine ol_ev (ev_nilP rfl) rfl ?_ | refine ol_ev (ev_fld rfl) rfl ?_ | refine ol_ev (ev_load rfl m0 rfl) rfl ?_ | refine ol_ev (ev_load rfl m1 rfl) rfl ?_ | refine ol_ev (ev_load rfl m2 rfl) rfl ?_ | refine ol_ev (ev_load rfl m3 rfl) rfl ?_ | refine ol_ev (ev_assign rfl) rfl ?_ | refine cw_seq ?_ | refine cw_region ?_ | refine ol_nil ?_ | refine cw_ret ?_ | refine cw_skip ?_ | refine cw_block ?_ | refine cw_exit ?_ | refine cw_if_t rfl ?_ | refine cw_if_f rfl ?_ | refine ol_ev (ev_extract rfl rfl) rfl ?_ | refine ol_ev (ev_gt rfl rfl) rfl ?_ | refine ol_ev (ev_lt rfl rfl) rfl ?_ | refine ol_ev (ev_eq rfl rfl) rfl ?_ | refine ol_ev (ev_len_s rfl) rfl ?_ | refine ol_ev (ev_len_str rfl) rfl ?_ | refine ol_ev (ev_pick_t rfl rfl) rfl ?_ | refine ol_ev (ev_pick_f rfl rfl) rfl ?_ | refine ol_ev (ev_ge rfl rfl) rfl ?_ | refine ol_ev (ev_le rfl rfl) rfl ?_ | refine ol_ev (ev_ne rfl rfl) rfl ?_ | refine ol_ev (ev_not rfl) rfl ?_ | refine ol_ev (ev_eqnil_i rfl) rfl ?_ | refine ol_ev (ev_eqnil_n rfl) rfl ?_ | refine ol_ev (ev_nenil_i rfl) rfl ?_ | refine ol_ev (ev_nenil_n rfl) rfl ?_ | refine ol_ev (ev_nenil_s rfl) rfl ?_ | refine ol_ev (ev_eqnil_s rfl) rfl ?_ | refine ol_ev (ev_min rfl rfl) rfl ?_ | refine ol_ev (ev_max rfl rfl) rfl ?_ | refine ol_ev (ev_mkiface rfl) rfl ?_ | refine ol_ev (ev_nilI rfl) rfl ?_ | refine ol_ev (ev_nilF rfl) rfl ?_ | refine ol_ev (ev_cap_s rfl) rfl ?_ | refine ol_ev (ev_eq_str rfl rfl) rfl ?_ | refine ol_ev (ev_ne_str rfl rfl) rfl ?_ | refine ol_ev (ev_mkfunc0) rfl ?_ | refine ol_ev (ev_mkfunc1 rfl) rfl ?_ | refine ol_ev (ev_mkfunc2 rfl rfl) rfl ?_ | refine ol_ev (ev_mkfunc3 rfl rfl rfl) rfl ?_ | refine ol_ev (ev_load rfl m4 rfl) rfl ?_ | refine ol_ev (ev_load rfl m5 rfl) rfl ?_ | refine ol_store rfl rfl rfl u0 rfl rfl ?_ | refine ol_store rfl rfl rfl u1 rfl rfl ?_ | refine ol_store rfl rfl rfl u2 rfl rfl ?_ | refine ol_store rfl rfl rfl u3 rfl rfl ?_ | refine ol_store rfl rfl rfl u4 rfl rfl ?_ | refine ol_store rfl rfl rfl u5 rfl rfl ?_ | refine ol_on rfl rfl rfl ?_ | refine ol_off rfl rfl rfl rfl rfl ?_ | refine ol_offu rfl rfl rfl rfl ?_ | (refine ol_ev (ev_quo rfl rfl ?_ ?_ ?_) rfl ?_; omega; omega; (constructor <;> omega)) | (refine ol_ev (ev_add rfl rfl ?_) rfl ?_; (constructor <;> omega)) | (refine ol_ev (ev_sub rfl rfl ?_) rfl ?_; (constructor <;> omega)))); exact ⟨_, res1 rfl rfl, rfl⟩)
    refine cw_seq ?_; refine cw_region ?_; refine ol_ev (ev_assign rfl) rfl ?_; refine ol_nil ?_; refine cw_seq ?_; refine cw_seq ?_; refine cw_region ?_; refine ol_ev (ev_move rfl) rfl ?_; refine ol_ev (ev_le rfl rfl) rfl ?_; refine ol_nil ?_
    refine cw_ifd rfl (fun h => absurd h (by omega)) (fun _ => ?_)
    refine cw_skip ?_; refine cw_seq ?_; refine cw_seq ?_; refine cw_region ?_; refine ol_ev (ev_move rfl) rfl ?_; refine ol_ev (ev_le rfl rfl) rfl ?_; refine ol_ev (ev_move rfl) rfl ?_
    rw [decide_eq_true hs2.1]
    refine ol_on rfl rfl rfl ?_; refine ol_ev (ev_move rfl) rfl ?_; refine ol_on rfl rfl rfl ?_; refine ol_ev (ev_le rfl rfl) rfl ?_; refine ol_ev (ev_pick_t rfl rfl) rfl ?_; refine ol_nil ?_
    rw [decide_eq_true hs2.2]
    refine cw_if_t rfl ?_; refine cw_seq ?_; refine cw_region ?_; refine ol_ev (ev_assign rfl) rfl ?_; refine ol_nil ?_; refine cw_ret ?_
    exact ⟨_, res1 rfl rfl, rfl⟩
  · have hv : isSp r = false := decide_eq_false hs
    rw [hv]
    by_cases h1 : r ≤ 255
    · refine cw_seq ?_; refine cw_region ?_; refine ol_ev (ev_assign rfl) rfl ?_; refine ol_nil ?_; refine cw_seq ?_; refine cw_seq ?_; refine cw_region ?_; refine ol_ev (ev_move rfl) rfl ?_; refine ol_ev (ev_le rfl rfl) rfl ?_; refine ol_nil ?_
      refine cw_ifd rfl (fun _ => ?_) (fun h => absurd h1 h)
      iterate 8 ((repeat (first | refine ol_ev (ev_move rfl) rfl ?_ | refine ol_ev (ev_nilP rfl) rfl ?_ | refine ol_ev (ev_fld rfl) rfl ?_ | refine ol_ev (ev_load rfl m0 rfl) rfl ?_ | refine ol_ev (ev_load rfl m1 rfl) rfl ?_ | refine ol_ev (ev_load rfl m2 rfl) rfl ?_ | refine ol_ev (ev_load rfl m3 rfl) rfl ?_ | refine ol_ev (ev_assign rfl) rfl ?_ | refine cw_seq ?_ | refine cw_region ?_ | refine ol_nil ?_ | refine cw_ret ?_ | refine cw_skip ?_ | refine cw_block ?_ | refine cw_exit ?_ | refine cw_if_t rfl ?_ | refine cw_if_f rfl ?_ | refine ol_ev (ev_extract rfl rfl) rfl ?_ | refine ol_ev (ev_gt rfl rfl) rfl ?_ | refine ol_ev (ev_lt rfl rfl) rfl ?_ | refine ol_ev (ev_eq rfl rfl) rfl ?_ | refine ol_ev (ev_len_s rfl) rfl ?_ | refine ol_ev (ev_len_str rfl) rfl ?_ | refine ol_ev (ev_pick_t rfl rfl) rfl ?_ | refine ol_ev (ev_pick_f rfl rfl) rfl ?_ | refine ol_ev (ev_ge rfl rfl) rfl ?_ | refine ol_ev (ev_le rfl rfl) rfl ?_ | refine ol_ev (ev_ne rfl rfl) rfl ?_ | refine ol_ev (ev_not rfl) rfl ?_ | refine ol_ev (ev_eqnil_i rfl) rfl ?_ | refine ol_ev (ev_eqnil_n rfl) rfl ?_ | refine ol_ev (ev_nenil_i rfl) rfl ?_ | refine ol_ev (ev_nenil_n rfl) rfl ?_ | refine ol_ev (ev_nenil_s rfl) rfl ?_ | refine ol_ev (ev_eqnil_s rfl) rfl ?_ | refine ol_ev (ev_min rfl rfl) rfl ?_ | refine ol_ev (ev_max rfl rfl) rfl ?_ | refine ol_ev (ev_mkiface rfl) rfl ?_ | refine ol_ev (ev_nilI rfl) rfl ?_ | refine ol_ev (ev_nilF rfl) rfl ?_ | refine ol_ev (ev_cap_s rfl) rfl ?_ | refine ol_ev (ev_eq_str rfl rfl) rfl ?_ | refine ol_ev (ev_ne_str rfl rfl) rfl ?_ | refine ol_ev (ev_mkfunc0) rfl ?_ | refine ol_ev (ev_mkfunc1 rfl) rfl ?_ | refine ol_ev (ev_mkfunc2 rfl rfl) rfl ?_ | refine ol_ev (ev_mkfunc3 rfl rfl rfl) rfl ?_ | refine ol_ev (ev_load rfl m4 rfl) rfl ?_ | refine ol_ev (ev_load rfl m5 rfl) rfl ?_ | refine ol_store rfl rfl rfl u0 rfl rfl ?_ | refine ol_store rfl rfl rfl u1 rfl rfl ?_ | refine ol_store rfl rfl rfl u2 rfl rfl ?_ | refine ol_store rfl rfl rfl u3 rfl rfl ?_ | refine ol_store rfl rfl rfl u4 rfl rfl ?_ | refine ol_store rfl rfl rfl u5 rfl rfl ?_ | refine ol_on rfl rfl rfl ?_ | refine ol_off rfl rfl rfl rfl rfl ?_ | refine ol_offu rfl rfl rfl rfl ?_ | (refine ol_ev (ev_quo rfl rfl ?_ ?_ ?_) rfl ?_; omega; omega; (constructor <;> omega)) | (refine ol_ev (ev_add rfl rfl ?_) rfl ?_; (constructor <;> omega)) | (refine ol_ev (ev_sub rfl rfl ?_) rfl ?_; (constructor <;> omega)))); (iterate 2 (try refine cw_ifd rfl (fun h => absurd h (by omega)) (fun _ => ?_))))
      refine cw_skip ?_; refine cw_seq ?_; refine cw_region ?_; refine ol_ev (ev_assign rfl) rfl ?_; refine ol_nil ?_; refine cw_ret ?_
      exact ⟨_, res1 rfl rfl, rfl⟩
    · refine cw_seq ?_; refine cw_region ?_; refine ol_ev (ev_assign rfl) rfl ?_; refine ol_nil ?_; refine cw_seq ?_; refine cw_seq ?_; refine cw_region ?_; refine ol_ev (ev_move rfl) rfl ?_; refine ol_ev (ev_le rfl rfl) rfl ?_; refine ol_nil ?_
      refine cw_ifd rfl (fun h => absurd h h1) (fun _ => ?_)
      by_cases h2 : 8192 ≤ r
      · refine cw_skip ?_; refine cw_seq ?_; refine cw_seq ?_; refine cw_region ?_; refine ol_ev (ev_move rfl) rfl ?_; refine ol_ev (ev_le rfl rfl) rfl ?_; refine ol_ev (ev_move rfl) rfl ?_
        rw [decide_eq_true h2]
        refine ol_on rfl rfl rfl ?_; refine ol_ev (ev_move rfl) rfl ?_; refine ol_on rfl rfl rfl ?_; refine ol_ev (ev_le rfl rfl) rfl ?_; refine ol_ev (ev_pick_t rfl rfl) rfl ?_; refine ol_nil ?_
        rw [decide_eq_false (show ¬ r ≤ 8202 by omega)]
        refine cw_if_f rfl ?_; refine cw_skip ?_; refine cw_seq ?_; refine cw_seq ?_; refine cw_region ?_; refine ol_ev (ev_move rfl) rfl ?_; refine ol_nil ?_; refine cw_block ?_; refine cw_seq ?_; refine cw_seq ?_; refine cw_region ?_; refine ol_ev (ev_eq rfl rfl) rfl ?_; refine ol_ev (ev_assign rfl) rfl ?_; refine ol_nil ?_
        iterate 6 ((repeat (first | refine ol_ev (ev_move rfl) rfl ?_ | refine ol_ev (ev_nilP rfl) rfl ?_ | refine ol_ev (ev_fld rfl) rfl ?_ | refine ol_ev (ev_load rfl m0 rfl) rfl ?_ | refine ol_ev (ev_load rfl m1 rfl) rfl ?_ | refine ol_ev (ev_load rfl m2 rfl) rfl ?_ | refine ol_ev (ev_load rfl m3 rfl) rfl ?_ | refine ol_ev (ev_assign rfl) rfl ?_ | refine cw_seq ?_ | refine cw_region ?_ | refine ol_nil ?_ | refine cw_ret ?_ | refine cw_skip ?_ | refine cw_block ?_ | refine cw_exit ?_ | refine cw_if_t rfl ?_ | refine cw_if_f rfl ?_ | refine ol_ev (ev_extract rfl rfl) rfl ?_ | refine ol_ev (ev_gt rfl rfl) rfl ?_ | refine ol_ev (ev_lt rfl rfl) rfl ?_ | refine ol_ev (ev_eq rfl rfl) rfl ?_ | refine ol_ev (ev_len_s rfl) rfl ?_ | refine ol_ev (ev_len_str rfl) rfl ?_ | refine ol_ev (ev_pick_t rfl rfl) rfl ?_ | refine ol_ev (ev_pick_f rfl rfl) rfl ?_ | refine ol_ev (ev_ge rfl rfl) rfl ?_ | refine ol_ev (ev_le rfl rfl) rfl ?_ | refine ol_ev (ev_ne rfl rfl) rfl ?_ | refine ol_ev (ev_not rfl) rfl ?_ | refine ol_ev (ev_eqnil_i rfl) rfl ?_ | refine ol_ev (ev_eqnil_n rfl) rfl ?_ | refine ol_ev (ev_nenil_i rfl) rfl ?_ | refine ol_ev (ev_nenil_n rfl) rfl ?_ | refine ol_ev (ev_nenil_s rfl) rfl ?_ | refine ol_ev (ev_eqnil_s rfl) rfl ?_ | refine ol_ev (ev_min rfl rfl) rfl ?_ | refine ol_ev (ev_max rfl rfl) rfl ?_ | refine ol_ev (ev_mkiface rfl) rfl ?_ | refine ol_ev (ev_nilI rfl) rfl ?_ | refine ol_ev (ev_nilF rfl) rfl ?_ | refine ol_ev (ev_cap_s rfl) rfl ?_ | refine ol_ev (ev_eq_str rfl rfl) rfl ?_ | refine ol_ev (ev_ne_str rfl rfl) rfl ?_ | refine ol_ev (ev_mkfunc0) rfl ?_ | refine ol_ev (ev_mkfunc1 rfl) rfl ?_ | refine ol_ev (ev_mkfunc2 rfl rfl) rfl ?_ | refine ol_ev (ev_mkfunc3 rfl rfl rfl) rfl ?_ | refine ol_ev (ev_load rfl m4 rfl) rfl ?_ | refine ol_ev (ev_load rfl m5 rfl) rfl ?_ | refine ol_store rfl rfl rfl u0 rfl rfl ?_ | refine ol_store rfl rfl rfl u1 rfl rfl ?_ | refine ol_store rfl rfl rfl u2 rfl rfl ?_ | refine ol_store rfl rfl rfl u3 rfl rfl ?_ | refine ol_store rfl rfl rfl u4 rfl rfl ?_ | refine ol_store rfl rfl rfl u5 rfl rfl ?_ | refine ol_on rfl rfl rfl ?_ | refine ol_off rfl rfl rfl rfl rfl ?_ | refine ol_offu rfl rfl rfl rfl ?_ | (refine ol_ev (ev_quo rfl rfl ?_ ?_ ?_) rfl ?_; omega; omega; (constructor <;> omega)) | (refine ol_ev (ev_add rfl rfl ?_) rfl ?_; (constructor <;> omega)) | (refine ol_ev (ev_sub rfl rfl ?_) rfl ?_; (constructor <;> omega)))); (iterate 2 (try refine cw_ifd rfl (fun h => absurd h (by omega)) (fun _ => ?_))))
        refine cw_skip ?_; refine cw_seq ?_; refine cw_region ?_; refine ol_ev (ev_assign rfl) rfl ?_; refine ol_nil ?_; refine cw_ret ?_
        exact ⟨_, res1 rfl rfl, rfl⟩
      · refine cw_skip ?_; refine cw_seq ?_; refine cw_seq ?_; refine cw_region ?_; refine ol_ev (ev_move rfl) rfl ?_; refine ol_ev (ev_le rfl rfl) rfl ?_; refine ol_ev (ev_move rfl) rfl ?_
        rw [decide_eq_false h2]
        refine ol_off rfl rfl rfl rfl rfl ?_; refine ol_off rfl rfl rfl rfl rfl ?_; refine ol_ev (ev_pick_f rfl rfl) rfl ?_; refine ol_nil ?_; refine cw_if_f rfl ?_; refine cw_skip ?_; refine cw_seq ?_; refine cw_seq ?_; refine cw_region ?_; refine ol_ev (ev_move rfl) rfl ?_; refine ol_nil ?_; refine cw_block ?_; refine cw_seq ?_; refine cw_seq ?_; refine cw_region ?_; refine ol_ev (ev_eq rfl rfl) rfl ?_; refine ol_ev (ev_assign rfl) rfl ?_; refine ol_nil ?_
        iterate 6 ((repeat (first | refine ol_ev (ev_move rfl) rfl ?_ | refine ol_ev (ev_nilP rfl) rfl ?_ | refine ol_ev (ev_fld rfl) rfl ?_ | refine ol_ev (ev_load rfl m0 rfl) rfl ?_ | refine ol_ev (ev_load rfl m1 rfl) rfl ?_ | refine ol_ev (ev_load rfl m2 rfl) rfl ?_ | refine ol_ev (ev_load rfl m3 rfl) rfl ?_ | refine ol_ev (ev_assign rfl) rfl ?_ | refine cw_seq ?_ | refine cw_region ?_ | refine ol_nil ?_ | refine cw_ret ?_ | refine cw_skip ?_ | refine cw_block ?_ | refine cw_exit ?_ | refine cw_if_t rfl ?_ | refine cw_if_f rfl ?_ | refine ol_ev (ev_extract rfl rfl) rfl ?_ | refine ol_ev (ev_gt rfl rfl) rfl ?_ | refine ol_ev (ev_lt rfl rfl) rfl ?_ | refine ol_ev (ev_eq rfl rfl) rfl ?_ | refine ol_ev (ev_len_s rfl) rfl ?_ | refine ol_ev (ev_len_str rfl) rfl ?_ | refine ol_ev (ev_pick_t rfl rfl) rfl ?_ | refine ol_ev (ev_pick_f rfl rfl) rfl ?_ | refine ol_ev (ev_ge rfl rfl) rfl ?_ | refine ol_ev (ev_le rfl rfl) rfl ?_ | refine ol_ev (ev_ne rfl rfl) rfl ?_ | refine ol_ev (ev_not rfl) rfl ?_ | refine ol_ev (ev_eqnil_i rfl) rfl ?_ | refine ol_ev (ev_eqnil_n rfl) rfl ?_ | refine ol_ev (ev_nenil_i rfl) rfl ?_ | refine ol_ev (ev_nenil_n rfl) rfl ?_ | refine ol_ev (ev_nenil_s rfl) rfl ?_ | refine ol_ev (ev_eqnil_s rfl) rfl ?_ | refine ol_ev (ev_min rfl rfl) rfl ?_ | refine ol_ev (ev_max rfl rfl) rfl ?_ | refine ol_ev (ev_mkiface rfl) rfl ?_ | refine ol_ev (ev_nilI rfl) rfl ?_ | refine ol_ev (ev_nilF rfl) rfl ?_ | refine ol_ev (ev_cap_s rfl) rfl ?_ | refine ol_ev (ev_eq_str rfl rfl) rfl ?_ | refine ol_ev (ev_ne_str rfl rfl) rfl ?_ | refine ol_ev (ev_mkfunc0) rfl ?_ | refine ol_ev (ev_mkfunc1 rfl) rfl ?_ | refine ol_ev (ev_mkfunc2 rfl rfl) rfl ?_ | refine ol_ev (ev_mkfunc3 rfl rfl rfl) rfl ?_ | refine ol_ev (ev_load rfl m4 rfl) rfl ?_ | refine ol_ev (ev_load rfl m5 rfl) rfl ?_ | refine ol_store rfl rfl rfl u0 rfl rfl ?_ | refine ol_store rfl rfl rfl u1 rfl rfl ?_ | refine ol_store rfl rfl rfl u2 rfl rfl ?_ | refine ol_store rfl rfl rfl u3 rfl rfl ?_ | refine ol_store rfl rfl rfl u4 rfl rfl ?_ | refine ol_store rfl rfl rfl u5 rfl rfl ?_ | refine ol_on rfl rfl rfl ?_ | refine ol_off rfl rfl rfl rfl rfl ?_ | refine ol_offu rfl rfl rfl rfl ?_ | (refine ol_ev (ev_quo rfl rfl ?_ ?_ ?_) rfl ?_; omega; omega; (constructor <;> omega)) | (refine ol_ev (ev_add rfl rfl ?_) rfl ?_; (constructor <;> omega)) | (refine ol_ev (ev_sub rfl rfl ?_) rfl ?_; (constructor <;> omega)))); (iterate 2 (try refine cw_ifd rfl (fun h => absurd h (by omega)) (fun _ => ?_))))
        refine cw_skip ?_; refine cw_seq ?_; refine cw_region ?_; refine ol_ev (ev_assign rfl) rfl ?_; refine ol_nil ?_; refine cw_ret ?_
        exact ⟨_, res1 rfl rfl, rfl⟩

theorem lines_ok : SplitOk W E 69 [] lstep (fun _ _ => True) := by
  refine ⟨by kernel_rfl, fun _ _ _ _ _ => trivial, fun _ _ _ _ => trivial, fun s d e c h => ?_, ?_⟩
  · rcases lstep_ok.err s d e c h with rfl | rfl <;> omega
  rintro s T bb off dcap cells data atEOF _ hne hdat hle hcap hbig
  refine ct_of_cw (vs := [_, _]) Tryd.func69 rfl rfl fun w1 => ?_
  have hidx := indexByte_nl data
  by_cases h0 : atEOF = true ∧ data = []
  · obtain ⟨rfl, rfl⟩ := h0
    refine cw_seq ?_; refine cw_region ?_; (iterate 3 (refine ol_ev (ev_assign rfl) rfl ?_)); refine ol_nil ?_; refine cw_seq ?_; refine cw_seq ?_; refine cw_region ?_; refine ol_ev (ev_move rfl) rfl ?_; refine ol_ev (ev_move rfl) rfl ?_; refine ol_on rfl rfl rfl ?_; refine ol_ev (ev_move rfl) rfl ?_; refine ol_on rfl rfl rfl ?_; refine ol_ev (ev_len_s rfl) rfl ?_; refine ol_on rfl rfl rfl ?_; refine ol_ev (ev_eq rfl rfl) rfl ?_; refine ol_ev (ev_pick_t rfl rfl) rfl ?_; refine ol_nil ?_; refine cw_if_t rfl ?_; refine cw_seq ?_; refine cw_region ?_; (iterate 3 (refine ol_ev (ev_assign rfl) rfl ?_)); refine ol_nil ?_; refine cw_ret ?_
    rw [decide_eq_true (show ((([] : List UInt8).length : Nat) : Int) = 0 from rfl)]
    skip
    exact ⟨_, res3 rfl rfl rfl rfl, _, T, rfl, rfl, trivial, fun _ _ h _ => h, rfl⟩
  have hst : lstep s data atEOF = match nlAt data with
    | some i => ⟨((i + 1 : Nat) : Int), some (dropC (data.take i)), none, ()⟩
    | none => if atEOF = true then ⟨(data.length : Int), some (dropC data), none, ()⟩ else ⟨0, none, none, ()⟩ := by unfold lstep; rw [if_neg h0]; cases nlAt data <;> rfl
  rw [hst]
  refine cw_seq ?_
  refine cw_region ?_; (iterate 3 (refine ol_ev (ev_assign rfl) rfl ?_)); refine ol_nil ?_
  refine cw_cut (fun l' H' => SubE l' [(0, .slice (some ⟨bb, off, none⟩) data.length dcap), (1, .bool atEOF)] ∧ H' = (bb, (⟨cells, 5, (0, 0)⟩ : HO)) :: T) ?_ ?_
  · cases atEOF with
    | true =>
      refine cw_seq ?_; refine cw_region ?_; refine ol_ev (ev_move rfl) rfl ?_; refine ol_ev (ev_move rfl) rfl ?_; refine ol_on rfl rfl rfl ?_; refine ol_ev (ev_move rfl) rfl ?_; refine ol_on rfl rfl rfl ?_; refine ol_ev (ev_len_s rfl) rfl ?_; refine ol_on rfl rfl rfl ?_; refine ol_ev (ev_eq rfl rfl) rfl ?_; refine ol_ev (ev_pick_t rfl rfl) rfl ?_; refine ol_nil ?_
      rw [decide_eq_false (show ¬ ((data.length : Nat) : Int) = 0 by have := List.length_pos_iff.2 (fun h => h0 ⟨rfl, h⟩ : data ≠ []); omega)]
      refine cw_if_f rfl ?_; refine cw_skip ?_
      exact ⟨⟨rfl, rfl, trivial⟩, rfl⟩
    | false =>
      refine cw_seq ?_; refine cw_region ?_; refine ol_ev (ev_move rfl) rfl ?_; refine ol_ev (ev_move rfl) rfl ?_; (iterate 3 (refine ol_off rfl rfl rfl rfl rfl ?_)); refine ol_ev (ev_pick_f rfl rfl) rfl ?_; refine ol_nil ?_; refine cw_if_f rfl ?_; refine cw_skip ?_
      exact ⟨⟨rfl, rfl, trivial⟩, rfl⟩
  rintro l' H' ⟨hl', rfl⟩
  refine CW.weak hl' ?_
  clear hl'
  refine cw_seq ?_; refine cw_seq ?_; refine cw_region ?_; refine ol_ev (ev_move rfl) rfl ?_
  refine ol_call2 (G := (bb, (⟨cells, 5, (0, 0)⟩ : HO)) :: T) (R := []) (cap := []) rfl rfl rfl rfl (index_ct _ bb off dcap _ data m0 hdat) (List.Perm.of_eq (List.append_nil _).symm) ?_
  rintro v G' ⟨rfl, rfl⟩
  rw [hidx]
  refine OL.nil_app ?_
  cases hn : nlAt data with
  | some i =>
    have hi := nl_lt hn
    have htl : (data.take i).length = i := by rw [List.length_take]; omega
    simp only
    refine ol_ev (ev_assign rfl) rfl ?_; refine ol_nil ?_; refine cw_seq ?_; refine cw_region ?_; refine ol_ev (ev_move rfl) rfl ?_; refine ol_ev (ev_ge rfl rfl) rfl ?_; refine ol_nil ?_; refine cw_if_t rfl ?_; refine cw_seq ?_; refine cw_region ?_; refine ol_ev (ev_move rfl) rfl ?_; (refine ol_ev (ev_add rfl rfl ?_) rfl ?_; (constructor <;> omega)); refine ol_ev (ev_move rfl) rfl ?_; refine ol_ev (ev_move rfl) rfl ?_
    rw [decide_eq_true (show (0 : Int) ≤ ((i : Nat) : Int) by omega)]
    skip
    refine ol_ev (ev_slice rfl rfl rfl (by omega) (by omega) (by omega)) rfl ?_
    have e0 : (if dcap = (0 : Int).toNat then off else off + (0 : Int).toNat) = off := by split <;> rfl
    rw [e0]
    have htk : TokAt ((bb, (⟨cells, 5, (0, 0)⟩ : HO)) :: T) (.slice (some ⟨bb, off, none⟩) (((i : Nat) : Int).toNat - (0 : Int).toNat) (dcap - (0 : Int).toNat)) (data.take i) := by
      refine ⟨bb, off, dcap, _, ?_, m0, ?_, rfl, by rw [htl]; omega⟩
      · rw [htl, show ((i : Nat) : Int).toNat - (0 : Int).toNat = i by omega]; rfl
      · rw [htl]
        have := congrArg (List.take i) hdat
        rw [List.take_take, Nat.min_eq_left (by omega), bcells_take] at this
        exact this
    refine ol_call1 (R := []) (cap := []) rfl rfl rfl (dropCR_ct _ _ (data.take i) htk (by rw [htl]; omega)) (List.Perm.of_eq (List.append_nil _).symm) ?_
    rintro v G' ⟨rfl, hv⟩
    refine OL.nil_app ?_
    (iterate 3 (refine ol_ev (ev_assign rfl) rfl ?_)); refine ol_nil ?_; refine cw_ret ?_
    refine ⟨_, res3 rfl rfl rfl rfl, ?_⟩
    exact ⟨_, T, rfl, rfl, trivial, fun _ _ h _ => h, hv⟩
  | none =>
    simp only
    refine ol_ev (ev_assign rfl) rfl ?_; refine ol_nil ?_; refine cw_seq ?_; refine cw_region ?_; refine ol_ev (ev_move rfl) rfl ?_; refine ol_ev (ev_ge rfl rfl) rfl ?_; refine ol_nil ?_; refine cw_if_f rfl ?_; refine cw_skip ?_; refine cw_seq ?_; refine cw_seq ?_; refine cw_region ?_; refine ol_ev (ev_move rfl) rfl ?_; refine ol_nil ?_
    cases atEOF with
    | false =>
      refine cw_if_f rfl ?_; refine cw_skip ?_; refine cw_seq ?_; refine cw_region ?_; (iterate 3 (refine ol_ev (ev_assign rfl) rfl ?_)); refine ol_nil ?_; refine cw_ret ?_
      exact ⟨_, res3 rfl rfl rfl rfl, _, T, rfl, rfl, trivial, fun _ _ h _ => h, rfl⟩
    | true =>
      rw [if_pos rfl]
      refine cw_if_t rfl ?_; refine cw_seq ?_; refine cw_region ?_; refine ol_ev (ev_move rfl) rfl ?_; refine ol_ev (ev_len_s rfl) rfl ?_; refine ol_ev (ev_move rfl) rfl ?_
      refine ol_call1 (R := []) (cap := []) rfl rfl rfl (dropCR_ct ((bb, (⟨cells, 5, (0, 0)⟩ : HO)) :: T) _ data ⟨bb, off, dcap, _, rfl, m0, hdat, rfl, hcap⟩ (by omega)) (List.Perm.of_eq (List.append_nil _).symm) ?_
      rintro v G' ⟨rfl, hv⟩
      refine OL.nil_app ?_
      (iterate 3 (refine ol_ev (ev_assign rfl) rfl ?_)); refine ol_nil ?_; refine cw_ret ?_
      refine ⟨_, res3 rfl rfl rfl rfl, ?_⟩
      exact ⟨_, T, rfl, rfl, trivial, fun _ _ h _ => h, hv⟩

/-- The rest of the bytes, as a slice. -/
theorem rest_cells {cells : List Value} {off k : Nat} {data : List UInt8} (hdat : (cells.drop off).take data.length = bcells data) (_ : k ≤ data.length) : (cells.drop (off + k)).take (data.drop k).length = bcells (data.drop k) := by
  rw [List.length_drop, ← bcells_drop, ← hdat, ← List.drop_drop, List.drop_take]

theorem words_ok (hT : Lib.Utf8Tabs 10 11 W) : SplitOk W E 70 [] wstep (fun _ _ => True) := by
  refine ⟨by kernel_rfl, fun _ _ _ _ _ => trivial, fun _ _ _ _ => trivial, fun s d e c h => ?_, ?_⟩
  · rcases wstep_ok.err s d e c h with rfl | rfl <;> omega
  rintro s T bb off dcap cells data atEOF _ hne hdat hle hcap hbig
  have hsk := skip_le _ data rfl
  have hrest := skip_rest _ data rfl
  refine ct_of_cw (vs := [_, _]) Tryd.func70 rfl rfl fun w1 => ?_
  refine cw_seq ?_
  refine cw_region ?_; (iterate 3 (refine ol_ev (ev_assign rfl) rfl ?_)); refine ol_nil ?_
  refine cw_seq ?_
  refine cw_region ?_; refine ol_ev (ev_assign rfl) rfl ?_; refine ol_nil ?_
  refine cw_cut (fun l' H' => SubE l' [(0, .slice (some ⟨bb, off, none⟩) data.length dcap), (1, .bool atEOF), (7, .int .i64 (skipS data : Int))] ∧ H' = (bb, (⟨cells, 5, (0, 0)⟩ : HO)) :: T) ?_ ?_
  · refine cw_seq ?_; refine cw_region ?_; refine ol_ev (ev_assign rfl) rfl ?_; refine ol_nil ?_; refine cw_block ?_
    refine cw_loop (σ := Nat) (fun k => [(0, .slice (some ⟨bb, off, none⟩) data.length dcap), (1, .bool atEOF), (7, .int .i64 (k : Int))]) (fun _ => (bb, (⟨cells, 5, (0, 0)⟩ : HO)) :: T)
      (fun k => k ≤ data.length ∧ skipS data = k + skipS (data.drop k)) (fun k => data.length - k) 0 ⟨Nat.zero_le _, by simp⟩ (fun a ha => ha.weak ⟨rfl, rfl, rfl, trivial⟩) rfl ?_
    rintro k ⟨hk, hks⟩
    refine cw_seq ?_; refine cw_seq ?_; refine cw_region ?_; refine ol_ev (ev_move rfl) rfl ?_; refine ol_ev (ev_move rfl) rfl ?_; refine ol_ev (ev_len_s rfl) rfl ?_; refine ol_ev (ev_lt rfl rfl) rfl ?_; refine ol_nil ?_
    refine cw_ifd rfl (fun h2 => ?_) (fun h2 => ?_)
    · have hx : k < data.length := by omega
      have hd0 : data.drop k ≠ [] := fun h => by have := congrArg List.length h; rw [List.length_drop] at this; simp at this; omega
      have hds := dec_size hd0
      rw [List.length_drop] at hds
      refine cw_skip ?_; refine cw_seq ?_; refine cw_block ?_; refine cw_seq ?_; refine cw_region ?_; refine ol_ev (ev_assign rfl) rfl ?_; refine ol_nil ?_; refine cw_seq ?_; refine cw_region ?_; refine ol_ev (ev_move rfl) rfl ?_; refine ol_ev (ev_move rfl) rfl ?_
      refine ol_ev (ev_slice_from rfl rfl (by omega) (by omega)) rfl ?_
      rw [show ((k : Nat) : Int).toNat = k by omega, if_neg (show ¬ dcap = k by omega)]
      have hdc := decode_ct (W := W) hT ((bb, (⟨cells, 5, (0, 0)⟩ : HO)) :: T) bb (off + k) (dcap - k) ⟨cells, 5, (0, 0)⟩ (data.drop k) hd0 m0 (rest_cells hdat hk)
      rw [List.length_drop] at hdc
      refine ol_call1 (R := []) (cap := []) rfl rfl rfl hdc (List.Perm.of_eq (List.append_nil _).symm) ?_
      rintro v G' ⟨rfl, rfl⟩
      refine OL.nil_app ?_
      refine ol_ev (ev_move rfl) rfl ?_; refine ol_ev (ev_extract rfl rfl) rfl ?_; refine ol_ev (ev_extract rfl rfl) rfl ?_; refine ol_ev (ev_assign rfl) rfl ?_; refine ol_ev (ev_assign rfl) rfl ?_; refine ol_nil ?_; refine cw_seq ?_; refine cw_region ?_; refine ol_ev (ev_move rfl) rfl ?_
      refine ol_call1 (G := []) (cap := []) rfl rfl rfl (isSpace_ct ((dec (data.drop k)).1 : Int)) (List.Perm.refl _) ?_
      rintro v G' rfl
      refine OL.drop ?_
      cases hsp : isSp ((dec (data.drop k)).1 : Int) with
      | true =>
        have h9 := skipS_sp hd0 hsp
        rw [List.drop_drop] at h9
        refine ol_ev (ev_not rfl) rfl ?_; refine ol_nil ?_; refine cw_if_f rfl ?_; refine cw_skip ?_; refine cw_region ?_; refine ol_ev (ev_move rfl) rfl ?_; refine ol_ev (ev_move rfl) rfl ?_; (refine ol_ev (ev_add rfl rfl ?_) rfl ?_; (constructor <;> omega)); refine ol_ev (ev_assign rfl) rfl ?_; refine ol_nil ?_
        refine ⟨k + (dec (data.drop k)).2, ⟨by omega, by omega⟩, ⟨rfl, rfl, rfl, trivial⟩, rfl, by omega⟩
      | false =>
        have h9 := skipS_no hd0 hsp
        refine ol_ev (ev_not rfl) rfl ?_; refine ol_nil ?_; refine cw_if_t rfl ?_; refine cw_exit ?_
        refine ⟨⟨rfl, rfl, ?_, trivial⟩, rfl⟩
        rw [hks, h9]; rfl
    · have hend : data.drop k = [] := List.drop_of_length_le (by omega)
      rw [hend, skipS_nil] at hks
      refine cw_exit ?_
      refine ⟨⟨rfl, rfl, ?_, trivial⟩, rfl⟩
      rw [hks]; rfl
  rintro l' H' ⟨hl', rfl⟩
  refine CW.weak hl' ?_
  clear hl'
  unfold wstep
  generalize hst : skipS data = st at hsk hrest
  refine cw_cut (fun l' H' => SubE l' [(0, .slice (some ⟨bb, off, none⟩) data.length dcap), (1, .bool atEOF), (7, .int .i64 (st : Int))] ∧ H' = (bb, (⟨cells, 5, (0, 0)⟩ : HO)) :: T ∧ findS (data.drop st) = none) ?_ ?_
  · refine cw_seq ?_; refine cw_region ?_; refine ol_ev (ev_move rfl) rfl ?_; refine ol_ev (ev_assign rfl) rfl ?_; refine ol_ev (ev_assign rfl) rfl ?_; refine ol_nil ?_; refine cw_block ?_
    refine cw_loop (σ := Nat) (fun k => [(0, .slice (some ⟨bb, off, none⟩) data.length dcap), (1, .bool atEOF), (7, .int .i64 (st : Int)), (11, .int .i64 (k : Int))]) (fun _ => (bb, (⟨cells, 5, (0, 0)⟩ : HO)) :: T)
      (fun k => st ≤ k ∧ k ≤ data.length ∧ findS (data.drop st) = (findS (data.drop k)).map fun p => (k - st + p.1, p.2)) (fun k => data.length - k) st ⟨Nat.le_refl _, hsk, by cases findS (data.drop st) <;> simp⟩ (fun a ha => ha.weak ⟨rfl, rfl, rfl, rfl, trivial⟩) rfl ?_
    rintro k ⟨hsk2, hk, hks⟩
    refine cw_seq ?_; refine cw_seq ?_; refine cw_region ?_; refine ol_ev (ev_move rfl) rfl ?_; refine ol_ev (ev_move rfl) rfl ?_; refine ol_ev (ev_len_s rfl) rfl ?_; refine ol_ev (ev_lt rfl rfl) rfl ?_; refine ol_nil ?_
    refine cw_ifd rfl (fun h2 => ?_) (fun h2 => ?_)
    · have hx : k < data.length := by omega
      have hd0 : data.drop k ≠ [] := fun h => by have := congrArg List.length h; rw [List.length_drop] at this; simp at this; omega
      have hds := dec_size hd0
      rw [List.length_drop] at hds
      refine cw_skip ?_; refine cw_seq ?_; refine cw_block ?_; refine cw_seq ?_; refine cw_region ?_; refine ol_ev (ev_assign rfl) rfl ?_; refine ol_nil ?_; refine cw_seq ?_; refine cw_region ?_; refine ol_ev (ev_move rfl) rfl ?_; refine ol_ev (ev_move rfl) rfl ?_
      refine ol_ev (ev_slice_from rfl rfl (by omega) (by omega)) rfl ?_
      rw [show ((k : Nat) : Int).toNat = k by omega, if_neg (show ¬ dcap = k by omega)]
      have hdc := decode_ct (W := W) hT ((bb, (⟨cells, 5, (0, 0)⟩ : HO)) :: T) bb (off + k) (dcap - k) ⟨cells, 5, (0, 0)⟩ (data.drop k) hd0 m0 (rest_cells hdat hk)
      rw [List.length_drop] at hdc
      refine ol_call1 (R := []) (cap := []) rfl rfl rfl hdc (List.Perm.of_eq (List.append_nil _).symm) ?_
      rintro v G' ⟨rfl, rfl⟩
      refine OL.nil_app ?_
      refine ol_ev (ev_move rfl) rfl ?_; refine ol_ev (ev_extract rfl rfl) rfl ?_; refine ol_ev (ev_extract rfl rfl) rfl ?_; refine ol_ev (ev_assign rfl) rfl ?_; refine ol_ev (ev_assign rfl) rfl ?_; refine ol_nil ?_; refine cw_seq ?_; refine cw_region ?_; refine ol_ev (ev_move rfl) rfl ?_
      refine ol_call1 (G := []) (cap := []) rfl rfl rfl (isSpace_ct ((dec (data.drop k)).1 : Int)) (List.Perm.refl _) ?_
      rintro v G' rfl
      refine OL.drop ?_
      cases hsp : isSp ((dec (data.drop k)).1 : Int) with
      | true =>
        rw [findS_sp hd0 hsp] at hks
        have hks' : findS (data.drop st) = some (k - st, (dec (data.drop k)).2) := by rw [hks]; simp
        have hlt : ((data.drop st).take (k - st)).length = k - st := by rw [List.length_take, List.length_drop]; omega
        rw [hks']
        simp only
        refine ol_nil ?_; refine cw_if_t rfl ?_; refine cw_seq ?_
        refine cw_still mixed (by kernel_rfl) ?_
        refine sl_ev (ev_move rfl) rfl ?_; refine sl_ev (ev_move rfl) rfl ?_; (refine sl_ev (ev_add rfl rfl ?_) rfl ?_; (constructor <;> omega)); (iterate 3 (refine sl_ev (ev_move rfl) rfl ?_))
        refine sl_ev (ev_slice rfl rfl rfl (by omega) (by omega) (by omega)) rfl ?_
        rw [show ((st : Nat) : Int).toNat = st by omega, show ((k : Nat) : Int).toNat = k by omega]
        (iterate 3 (refine sl_ev (ev_assign rfl) rfl ?_)); refine sl_nil ?_
        refine cw_ret ?_
        refine ⟨_, res3 rfl rfl rfl rfl, ?_⟩
        refine ⟨_, T, ?_, rfl, trivial, fun _ _ h _ => h, bb, (if dcap = st then off else off + st), dcap - st, _, by rw [hlt], m0, ?_, rfl, by rw [hlt]; omega⟩
        · show Value.tuple #[.int .i64 (((k : Nat) : Int) + (((dec (data.drop k)).2 : Nat) : Int)), _, _] = Value.tuple #[.int .i64 (((st + (k - st) + (dec (data.drop k)).2 : Nat)) : Int), _, _]
          rw [show (((st + (k - st) + (dec (data.drop k)).2 : Nat)) : Int) = ((k : Nat) : Int) + (((dec (data.drop k)).2 : Nat) : Int) by omega]
          rfl
        · show (cells.drop (if dcap = st then off else off + st)).take ((data.drop st).take (k - st)).length = bcells ((data.drop st).take (k - st))
          rw [if_neg (by omega), hlt]
          have := congrArg (List.take (k - st)) (rest_cells hdat (Nat.le_trans hsk2 hk))
          rw [List.take_take, List.length_drop, Nat.min_eq_left (by omega), bcells_take] at this
          exact this
      | false =>
        rw [findS_no hd0 hsp, List.drop_drop] at hks
        refine ol_nil ?_; refine cw_if_f rfl ?_; refine cw_skip ?_; refine cw_region ?_; refine ol_ev (ev_move rfl) rfl ?_; refine ol_ev (ev_move rfl) rfl ?_; (refine ol_ev (ev_add rfl rfl ?_) rfl ?_; (constructor <;> omega)); refine ol_ev (ev_assign rfl) rfl ?_; refine ol_nil ?_
        refine ⟨k + (dec (data.drop k)).2, ⟨by omega, by omega, ?_⟩, ⟨rfl, rfl, rfl, rfl, trivial⟩, rfl, by omega⟩
        rw [hks]
        cases findS (data.drop (k + (dec (data.drop k)).2)) with
        | none => rfl
        | some p =>
          simp only [Option.map_some]
          rw [show k - st + ((dec (data.drop k)).2 + p.1) = k + (dec (data.drop k)).2 - st + p.1 by omega]
    · have hend : data.drop k = [] := List.drop_of_length_le (by omega)
      rw [hend, findS_nil] at hks
      refine cw_exit ?_
      exact ⟨⟨rfl, rfl, rfl, trivial⟩, rfl, hks⟩
  rintro l' H' ⟨hl', rfl, hnone⟩
  refine CW.weak hl' ?_
  clear hl'
  rw [hnone]
  simp only
  cases atEOF with
  | false =>
    rw [if_neg (by simp)]
    refine cw_seq ?_; refine cw_seq ?_; refine cw_region ?_; refine ol_ev (ev_move rfl) rfl ?_; refine ol_ev (ev_move rfl) rfl ?_; (iterate 4 (refine ol_off rfl rfl rfl rfl rfl ?_)); refine ol_ev (ev_pick_f rfl rfl) rfl ?_; refine ol_nil ?_; refine cw_if_f rfl ?_; refine cw_skip ?_; refine cw_seq ?_; refine cw_region ?_; refine ol_ev (ev_move rfl) rfl ?_; (iterate 3 (refine ol_ev (ev_assign rfl) rfl ?_)); refine ol_nil ?_; refine cw_ret ?_
    exact ⟨_, res3 rfl rfl rfl rfl, _, T, rfl, rfl, trivial, fun _ _ h _ => h, rfl⟩
  | true =>
    by_cases hc : st < data.length
    · rw [if_pos ⟨rfl, hc⟩]
      refine cw_seq ?_; refine cw_seq ?_; refine cw_region ?_; refine ol_ev (ev_move rfl) rfl ?_; refine ol_ev (ev_move rfl) rfl ?_; refine ol_on rfl rfl rfl ?_; refine ol_ev (ev_move rfl) rfl ?_; refine ol_on rfl rfl rfl ?_; refine ol_ev (ev_len_s rfl) rfl ?_; refine ol_on rfl rfl rfl ?_; refine ol_ev (ev_move rfl) rfl ?_; refine ol_on rfl rfl rfl ?_; refine ol_ev (ev_gt rfl rfl) rfl ?_; refine ol_ev (ev_pick_t rfl rfl) rfl ?_; refine ol_nil ?_
      rw [decide_eq_true (show ((st : Nat) : Int) < ((data.length : Nat) : Int) by omega)]
      refine cw_if_t rfl ?_; refine cw_seq ?_
      refine cw_still mixed (by kernel_rfl) ?_
      refine sl_ev (ev_move rfl) rfl ?_; refine sl_ev (ev_len_s rfl) rfl ?_; refine sl_ev (ev_move rfl) rfl ?_; refine sl_ev (ev_move rfl) rfl ?_
      refine sl_ev (ev_slice_from rfl rfl (by omega) (by omega)) rfl ?_
      rw [show ((st : Nat) : Int).toNat = st by omega, if_neg (show ¬ dcap = st by omega)]
      (iterate 3 (refine sl_ev (ev_assign rfl) rfl ?_)); refine sl_nil ?_
      refine cw_ret ?_
      refine ⟨_, res3 rfl rfl rfl rfl, ?_⟩
      refine ⟨_, T, rfl, rfl, trivial, fun _ _ h _ => h, bb, off + st, dcap - st, _, by rw [List.length_drop], m0, rest_cells hdat hsk, rfl, by rw [List.length_drop]; omega⟩
    · rw [if_neg (fun h => hc h.2)]
      refine cw_seq ?_; refine cw_seq ?_; refine cw_region ?_; refine ol_ev (ev_move rfl) rfl ?_; refine ol_ev (ev_move rfl) rfl ?_; refine ol_on rfl rfl rfl ?_; refine ol_ev (ev_move rfl) rfl ?_; refine ol_on rfl rfl rfl ?_; refine ol_ev (ev_len_s rfl) rfl ?_; refine ol_on rfl rfl rfl ?_; refine ol_ev (ev_move rfl) rfl ?_; refine ol_on rfl rfl rfl ?_; refine ol_ev (ev_gt rfl rfl) rfl ?_; refine ol_ev (ev_pick_t rfl rfl) rfl ?_; refine ol_nil ?_
      rw [decide_eq_false (show ¬ ((st : Nat) : Int) < ((data.length : Nat) : Int) by omega)]
      refine cw_if_f rfl ?_; refine cw_skip ?_; refine cw_seq ?_; refine cw_region ?_; refine ol_ev (ev_move rfl) rfl ?_; (iterate 3 (refine ol_ev (ev_assign rfl) rfl ?_)); refine ol_nil ?_; refine cw_ret ?_
      exact ⟨_, res3 rfl rfl rfl rfl, _, T, rfl, rfl, trivial, fun _ _ h _ => h, rfl⟩
end
end Go.HE
