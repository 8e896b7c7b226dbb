/- Split functions that change tokens, or leave tokens out, by contracts. Conditions: the inner split function meets its contract. -/
import Derived.Test.YtkaomlklllinlaaDoorLayP
import Derived.Test.YtkaomlklllinlaaDoorAll
/- Split functions around split functions, by contracts. Conditions: the errors are as start-up lays them; the inner split function meets its contract. -/
set_option maxRecDepth 100000
set_option maxHeartbeats 4000000
namespace Go.HE
open Go.RowKit Go.Proofs

theorem TokO.sub {H K : Heap} {tv : Value} {t : Option (List UInt8)} (h : TokO H tv t) (hs : ∀ p ∈ H, p ∈ K) : TokO K tv t := by
  cases t with
  | none => exact h
  | some t =>
    obtain ⟨b, off, c, o, h1, h2, h3, h4⟩ := h
    exact ⟨b, off, c, o, h1, hs _ h2, h3, h4⟩
theorem up2 {x a b : Nat × HO} {R : Heap} : (x :: a :: b :: R).Perm (a :: b :: x :: R) := (List.Perm.swap a x _).trans ((List.Perm.swap b x R).cons a)
theorem up3 {x a b c : Nat × HO} {R : Heap} : (x :: a :: b :: c :: R).Perm (a :: b :: c :: x :: R) := (List.Perm.swap a x _).trans (up2.cons a)
theorem fr2 {x a b : Nat × HO} {R : Heap} : (x :: a :: b :: R).Perm ((x :: R) ++ [a, b]) := (List.perm_append_comm (l₁ := [a, b]) (l₂ := R)).cons x
theorem fr3 {x a b c : Nat × HO} {R : Heap} : (x :: a :: b :: c :: R).Perm ((x :: R) ++ [a, b, c]) := (List.perm_append_comm (l₁ := [a, b, c]) (l₂ := R)).cons x
theorem keep2 {T R R' : Heap} {a b a' b' : Nat × HO} (hp : T.Perm (a :: b :: R)) (ha : a.2.elem ≠ 5) (hb : b.2.elem ≠ 5) (hR : ∀ k o, (k, o) ∈ R → o.elem = 5 → (k, o) ∈ R') : ∀ k o, (k, o) ∈ T → o.elem = 5 → (k, o) ∈ a' :: b' :: R' := by
  intro k o hm he
  have := hp.subset hm
  rcases List.mem_cons.1 this with h | h
  · subst h; exact absurd he ha
  rcases List.mem_cons.1 h with h | h
  · subst h; exact absurd he hb
  exact List.mem_cons_of_mem _ (List.mem_cons_of_mem _ (hR k o h he))
theorem keep3 {T R R' : Heap} {a b c a' b' c' : Nat × HO} (hp : T.Perm (a :: b :: c :: R)) (ha : a.2.elem ≠ 5) (hb : b.2.elem ≠ 5) (hc : c.2.elem ≠ 5) (hR : ∀ k o, (k, o) ∈ R → o.elem = 5 → (k, o) ∈ R') : ∀ k o, (k, o) ∈ T → o.elem = 5 → (k, o) ∈ a' :: b' :: c' :: R' := by
  intro k o hm he
  have := hp.subset hm
  rcases List.mem_cons.1 this with h | h
  · subst h; exact absurd he ha
  rcases List.mem_cons.1 h with h | h
  · subst h; exact absurd he hb
  rcases List.mem_cons.1 h with h | h
  · subst h; exact absurd he hc
  exact List.mem_cons_of_mem _ (List.mem_cons_of_mem _ (List.mem_cons_of_mem _ (hR k o h he)))
theorem tok2 {x a b : Nat × HO} {R : Heap} {tv : Value} {t : Option (List UInt8)} (h : TokO (x :: R) tv t) : TokO (x :: a :: b :: R) tv t := h.sub fun p hp => by
  rcases List.mem_cons.1 hp with h | h
  · rw [h]; exact List.mem_cons_self
  · exact List.mem_cons_of_mem _ (List.mem_cons_of_mem _ (List.mem_cons_of_mem _ h))
theorem tok3 {x a b c : Nat × HO} {R : Heap} {tv : Value} {t : Option (List UInt8)} (h : TokO (x :: R) tv t) : TokO (x :: a :: b :: c :: R) tv t := h.sub fun p hp => by
  rcases List.mem_cons.1 hp with h | h
  · rw [h]; exact List.mem_cons_self
  · exact List.mem_cons_of_mem _ (List.mem_cons_of_mem _ (List.mem_cons_of_mem _ (List.mem_cons_of_mem _ h)))

section
variable {W : World} {E : Nat → Addr} {σ : Type} {fid : Nat} {cap : List Value} {step : σ → List UInt8 → Bool → Ans σ} {I : σ → Heap → Prop}

/-- The cell of a closure that holds its inner split function. -/
def innO (fid : Nat) (cap : List Value) : HO := ⟨[.func (.func fid) #[] cap.toArray], 65, (0, 0)⟩

theorem take_ok (hE : Errs W E) (hsp : SplitOk W E fid cap step I) (hso : StepOk step) (nb ib : Nat) : SplitOk W E 73 [.pointer (some ⟨nb, 0, none⟩), .pointer (some ⟨ib, 0, none⟩)] (takeStep step)
    (fun s T => s.2 ≤ 9223372036854775807 ∧ ∃ R, T.Perm ((nb, (⟨[.int .i64 s.2], 3, (0, 0)⟩ : HO)) :: (ib, innO fid cap) :: R) ∧ I s.1 R) := by
  haveI hfn : TFn Tryd.prog fid := ⟨hsp.body⟩
  refine ⟨by kernel_rfl, fun s T T' hp ⟨h1, R, h2, h3⟩ => ⟨h1, R, hp.symm.trans h2, h3⟩, fun s T x ⟨h1, R, h2, h3⟩ => ⟨h1, x :: R, (h2.cons x).trans up2, hsp.more _ _ _ h3⟩, fun s d e c h => ?_, ?_⟩
  · rcases (take_step hso).err s d e c h with rfl | rfl <;> omega
  rintro ⟨s, n⟩ T bb off dcap cells data atEOF ⟨hn, R, hp, hI⟩ hne hdat hle hcap hbig
  simp only at hn hp hI
  refine ct_of_cw (vs := [_, _, _, _]) Tryd.func73 rfl rfl fun w1 => ?_
  refine CW.perm (hp.cons _) ?_
  refine cw_seq ?_; refine cw_region ?_; (iterate 3 (refine ol_ev (ev_assign rfl) rfl ?_)); refine ol_nil ?_; refine cw_seq ?_; refine cw_seq ?_; refine cw_region ?_; refine ol_ev (ev_load rfl m1 rfl) rfl ?_; refine ol_ev (ev_le rfl rfl) rfl ?_; refine ol_nil ?_
  refine cw_ifd rfl (fun h0 => ?_) (fun h0 => ?_)
  · have hst : takeStep step (s, n) data atEOF = ⟨0, none, some 6, (s, n)⟩ := by unfold takeStep; rw [if_pos h0]
    refine cw_seq ?_
    refine cw_still mixed (by kernel_rfl) ?_
    refine sl_ev (ev_loadW rfl hE.c6) rfl ?_
    (iterate 3 (refine sl_ev (ev_assign rfl) rfl ?_)); refine sl_nil ?_
    refine cw_ret ?_
    refine ⟨_, res3 rfl rfl rfl rfl, ?_⟩
    rw [hst]
    exact ⟨_, _, rfl, rfl, ⟨hn, R, List.Perm.refl _, hI⟩, fun _ _ h _ => hp.subset h, rfl⟩
  · refine cw_skip ?_; refine cw_seq ?_; refine cw_region ?_; refine ol_ev (ev_load rfl m2 rfl) rfl ?_; refine ol_ev (ev_move rfl) rfl ?_; refine ol_ev (ev_move rfl) rfl ?_
    refine ol_call2 (G := (bb, ⟨cells, 5, (0, 0)⟩) :: R) (R := [(nb, (⟨[.int .i64 n], 3, (0, 0)⟩ : HO)), (ib, innO fid cap)]) (cap := cap) rfl rfl rfl rfl (hsp.call s R bb off dcap cells data atEOF hI hne hdat hle hcap hbig) fr2 ?_
    rintro v G' ⟨tv, R', rfl, rfl, hI', hk, htok⟩
    refine OL.perm (K := (bb, ⟨cells, 5, (0, 0)⟩) :: (nb, (⟨[.int .i64 n], 3, (0, 0)⟩ : HO)) :: (ib, innO fid cap) :: R') fr2.symm ?_
    have hst : takeStep step (s, n) data atEOF = if (step s data atEOF).tok = none ∨ (step s data atEOF).err ≠ none then ⟨(step s data atEOF).adv, (step s data atEOF).tok, (step s data atEOF).err, ((step s data atEOF).st, n)⟩
      else ⟨(step s data atEOF).adv, (step s data atEOF).tok, if n = 1 then some 6 else none, ((step s data atEOF).st, n - 1)⟩ := by unfold takeStep; rw [if_neg h0]
    rw [hst]
    clear hst
    generalize step s data atEOF = a at hI' htok
    obtain ⟨adv, tok, err, st⟩ := a
    simp only at hI' htok ⊢
    cases tok with
    | none =>
      obtain rfl : tv = .slice none 0 0 := htok
      rw [if_pos (.inl rfl)]
      refine ol_ev (ev_move rfl) rfl ?_; (iterate 3 (refine ol_ev (ev_extract rfl rfl) rfl ?_)); (iterate 3 (refine ol_ev (ev_assign rfl) rfl ?_)); refine ol_nil ?_; refine cw_seq ?_; refine cw_seq ?_; refine cw_region ?_; refine ol_ev (ev_move rfl) rfl ?_; refine ol_ev (ev_eqnil_s rfl) rfl ?_; refine ol_ev (ev_move rfl) rfl ?_; refine ol_off rfl rfl rfl rfl rfl ?_; refine ol_off rfl rfl rfl rfl rfl ?_; refine ol_ev (ev_pick_t rfl rfl) rfl ?_; refine ol_nil ?_; refine cw_if_t rfl ?_; refine cw_seq ?_; refine cw_region ?_; (iterate 3 (refine ol_ev (ev_move rfl) rfl ?_)); (iterate 3 (refine ol_ev (ev_assign rfl) rfl ?_)); refine ol_nil ?_; refine cw_ret ?_
      refine ⟨_, res3 rfl rfl rfl rfl, ?_⟩
      exact ⟨_, _, rfl, rfl, ⟨hn, R', List.Perm.refl _, hI'⟩, keep2 hp (by simp) (by simp [innO]) hk, rfl⟩
    | some t =>
      have htok2 : TokO ((bb, (⟨cells, 5, (0, 0)⟩ : HO)) :: R') tv (some t) := htok
      obtain ⟨tb, toff, tcap, to, rfl, _⟩ := htok
      cases err with
      | some c =>
        rw [if_pos (.inr (by simp))]
        refine ol_ev (ev_move rfl) rfl ?_; (iterate 3 (refine ol_ev (ev_extract rfl rfl) rfl ?_)); (iterate 3 (refine ol_ev (ev_assign rfl) rfl ?_)); refine ol_nil ?_; refine cw_seq ?_; refine cw_seq ?_; refine cw_region ?_; refine ol_ev (ev_move rfl) rfl ?_; refine ol_ev (ev_eqnil_s rfl) rfl ?_; refine ol_ev (ev_move rfl) rfl ?_; refine ol_on rfl rfl rfl ?_; refine ol_ev (ev_move rfl) rfl ?_; refine ol_on rfl rfl rfl ?_; refine ol_ev (ev_nenil_i rfl) rfl ?_; refine ol_ev (ev_pick_f rfl rfl) rfl ?_; refine ol_nil ?_; refine cw_if_t rfl ?_; refine cw_seq ?_; refine cw_region ?_; (iterate 3 (refine ol_ev (ev_move rfl) rfl ?_)); (iterate 3 (refine ol_ev (ev_assign rfl) rfl ?_)); refine ol_nil ?_; refine cw_ret ?_
        refine ⟨_, res3 rfl rfl rfl rfl, ?_⟩
        exact ⟨_, _, rfl, rfl, ⟨hn, R', List.Perm.refl _, hI'⟩, keep2 hp (by simp) (by simp [innO]) hk, tok2 htok2⟩
      | none =>
        rw [if_neg (by simp)]
        refine ol_ev (ev_move rfl) rfl ?_; (iterate 3 (refine ol_ev (ev_extract rfl rfl) rfl ?_)); (iterate 3 (refine ol_ev (ev_assign rfl) rfl ?_)); refine ol_nil ?_; refine cw_seq ?_; refine cw_seq ?_; refine cw_region ?_; refine ol_ev (ev_move rfl) rfl ?_; refine ol_ev (ev_eqnil_s rfl) rfl ?_; refine ol_ev (ev_move rfl) rfl ?_; refine ol_on rfl rfl rfl ?_; refine ol_ev (ev_move rfl) rfl ?_; refine ol_on rfl rfl rfl ?_; refine ol_ev (ev_nenil_n rfl) rfl ?_; refine ol_ev (ev_pick_f rfl rfl) rfl ?_; refine ol_nil ?_; refine cw_if_f rfl ?_; refine cw_skip ?_; refine cw_seq ?_; refine cw_seq ?_; refine cw_region ?_; refine ol_ev (ev_load rfl m1 rfl) rfl ?_; (refine ol_ev (ev_sub rfl rfl ?_) rfl ?_; (constructor <;> omega)); refine ol_store rfl rfl rfl u1 rfl rfl ?_; refine ol_nil ?_; refine cw_seq ?_; refine cw_region ?_; refine ol_ev (ev_load rfl m1 rfl) rfl ?_; refine ol_ev (ev_eq rfl rfl) rfl ?_; refine ol_nil ?_
        refine cw_ifd rfl (fun h1 => ?_) (fun h1 => ?_)
        · have hn1 : n = 1 := by omega
          rw [if_pos hn1]
          refine cw_region ?_
          refine ol_ev (ev_loadW rfl hE.c6) rfl ?_
          refine ol_ev (ev_assign rfl) rfl ?_; refine ol_nil ?_; refine cw_seq ?_; refine cw_region ?_; (iterate 3 (refine ol_ev (ev_move rfl) rfl ?_)); (iterate 3 (refine ol_ev (ev_assign rfl) rfl ?_)); refine ol_nil ?_; refine cw_ret ?_
          refine ⟨_, res3 rfl rfl rfl rfl, ?_⟩
          exact ⟨_, _, rfl, rfl, ⟨by show n - 1 ≤ _; omega, R', List.Perm.refl _, hI'⟩, keep2 hp (by simp) (by simp [innO]) hk, tok2 htok2⟩
        · have hn1 : ¬ n = 1 := by omega
          rw [if_neg hn1]
          refine cw_skip ?_; refine cw_seq ?_; refine cw_region ?_; (iterate 3 (refine ol_ev (ev_move rfl) rfl ?_)); (iterate 3 (refine ol_ev (ev_assign rfl) rfl ?_)); refine ol_nil ?_; refine cw_ret ?_
          refine ⟨_, res3 rfl rfl rfl rfl, ?_⟩
          exact ⟨_, _, rfl, rfl, ⟨by show n - 1 ≤ _; omega, R', List.Perm.refl _, hI'⟩, keep2 hp (by simp) (by simp [innO]) hk, tok2 htok2⟩

theorem takeF_ct (n : Int) : Ct Tryd.prog W 53 #[.func (.func fid) #[] cap.toArray, .int .i64 n] [] (fun v H' => ∃ nb ib, v = .func (.func 73) #[] [.pointer (some ⟨nb, 0, none⟩), .pointer (some ⟨ib, 0, none⟩)].toArray ∧ H' = [(nb, ⟨[.int .i64 n], 3, (0, 0)⟩), (ib, innO fid cap)]) := by
  refine ct_of_cw (vs := [_, _]) Tryd.func53 rfl rfl fun w1 => ?_
  refine cw_seq ?_; refine cw_region ?_
  refine ol_box rfl rfl fun ib => ?_
  refine ol_box rfl rfl fun nb => ?_
  refine ol_ev (ev_assign rfl) rfl ?_; refine ol_nil ?_; refine cw_seq ?_; refine cw_region ?_; refine ol_ev (ev_mkfunc2 rfl rfl) rfl ?_; refine ol_ev (ev_assign rfl) rfl ?_; refine ol_nil ?_; refine cw_ret ?_
  exact ⟨_, res1 rfl rfl, nb, ib, rfl, rfl⟩

theorem meet_ok (hE : Errs W E) (hsp : SplitOk W E fid cap step I) (hso : StepOk step) (ib xb fb : Nat) (x : List UInt8) (fails : Bool) : SplitOk W E 74 [.pointer (some ⟨ib, 0, none⟩), .pointer (some ⟨xb, 0, none⟩), .pointer (some ⟨fb, 0, none⟩)] (meetStep x fails step)
    (fun s T => ∃ R, T.Perm ((ib, innO fid cap) :: (xb, (⟨[str x], 9, (0, 0)⟩ : HO)) :: (fb, (⟨[.bool fails], 4, (0, 0)⟩ : HO)) :: R) ∧ I s R) := by
  haveI hfn : TFn Tryd.prog fid := ⟨hsp.body⟩
  refine ⟨by kernel_rfl, fun s T T' hp ⟨R, h2, h3⟩ => ⟨R, hp.symm.trans h2, h3⟩, fun s T x ⟨R, h2, h3⟩ => ⟨x :: R, (h2.cons x).trans up3, hsp.more _ _ _ h3⟩, fun s d e c h => ?_, ?_⟩
  · rcases (meet_step hso).err s d e c h with rfl | rfl <;> omega
  rintro s T bb off dcap cells data atEOF ⟨R, hp, hI⟩ hne hdat hle hcap hbig
  refine ct_of_cw (vs := [_, _, _, _, _]) Tryd.func74 rfl rfl fun w1 => ?_
  refine CW.perm (hp.cons _) ?_
  refine cw_seq ?_; refine cw_region ?_; (iterate 3 (refine ol_ev (ev_assign rfl) rfl ?_)); refine ol_nil ?_; refine cw_seq ?_; refine cw_region ?_; refine ol_ev (ev_load rfl m1 rfl) rfl ?_; refine ol_ev (ev_move rfl) rfl ?_; refine ol_ev (ev_move rfl) rfl ?_
  refine ol_call2 (G := (bb, ⟨cells, 5, (0, 0)⟩) :: R) (R := [(ib, innO fid cap), (xb, (⟨[str x], 9, (0, 0)⟩ : HO)), (fb, (⟨[.bool fails], 4, (0, 0)⟩ : HO))]) (cap := cap) rfl rfl rfl rfl (hsp.call s R bb off dcap cells data atEOF hI hne hdat hle hcap hbig) fr3 ?_
  rintro v G' ⟨tv, R', rfl, rfl, hI', hk, htok⟩
  refine OL.perm (K := (bb, ⟨cells, 5, (0, 0)⟩) :: (ib, innO fid cap) :: (xb, (⟨[str x], 9, (0, 0)⟩ : HO)) :: (fb, (⟨[.bool fails], 4, (0, 0)⟩ : HO)) :: R') fr3.symm ?_
  unfold meetStep
  generalize step s data atEOF = a at hI' htok
  obtain ⟨adv, tok, err, st⟩ := a
  simp only at hI' htok ⊢
  have hkk : ∀ k o, (k, o) ∈ T → o.elem = 5 → (k, o) ∈ (ib, innO fid cap) :: (xb, (⟨[str x], 9, (0, 0)⟩ : HO)) :: (fb, (⟨[.bool fails], 4, (0, 0)⟩ : HO)) :: R' := keep3 hp (by simp [innO]) (by simp) (by simp) hk
  cases tok with
  | none =>
    obtain rfl : tv = .slice none 0 0 := htok
    rw [if_neg (by simp)]
    refine ol_ev (ev_move rfl) rfl ?_; (iterate 3 (refine ol_ev (ev_extract rfl rfl) rfl ?_)); (iterate 3 (refine ol_ev (ev_assign rfl) rfl ?_)); refine ol_nil ?_; refine cw_seq ?_; refine cw_block ?_; refine cw_seq ?_; refine cw_region ?_; refine ol_ev (ev_move rfl) rfl ?_; refine ol_ev (ev_eqnil_s rfl) rfl ?_; refine ol_ev (ev_move rfl) rfl ?_; (iterate 4 (refine ol_off rfl rfl rfl rfl rfl ?_)); refine ol_ev (ev_pick_t rfl rfl) rfl ?_; refine ol_ev (ev_assign rfl) rfl ?_; refine ol_nil ?_; refine cw_if_t rfl ?_; refine cw_seq ?_; refine cw_region ?_; (iterate 3 (refine ol_ev (ev_move rfl) rfl ?_)); (iterate 3 (refine ol_ev (ev_assign rfl) rfl ?_)); refine ol_nil ?_; refine cw_ret ?_
    refine ⟨_, res3 rfl rfl rfl rfl, ?_⟩
    exact ⟨_, _, rfl, rfl, ⟨R', List.Perm.refl _, hI'⟩, hkk, rfl⟩
  | some t =>
    have htok2 : TokO ((bb, (⟨cells, 5, (0, 0)⟩ : HO)) :: (ib, innO fid cap) :: (xb, (⟨[str x], 9, (0, 0)⟩ : HO)) :: (fb, (⟨[.bool fails], 4, (0, 0)⟩ : HO)) :: R') tv (some t) := tok3 htok
    obtain ⟨tb, toff, tcap, to, rfl, ht1, ht2, ht3⟩ := htok2
    refine ol_ev (ev_move rfl) rfl ?_; (iterate 3 (refine ol_ev (ev_extract rfl rfl) rfl ?_)); (iterate 3 (refine ol_ev (ev_assign rfl) rfl ?_)); refine ol_nil ?_; refine cw_seq ?_; refine cw_block ?_; refine cw_seq ?_; refine cw_region ?_; refine ol_ev (ev_move rfl) rfl ?_; refine ol_ev (ev_eqnil_s rfl) rfl ?_; refine ol_ev (ev_move rfl) rfl ?_; refine ol_on rfl rfl rfl ?_; refine ol_ev (ev_move rfl) rfl ?_; refine ol_on rfl rfl rfl ?_
    refine ol_ev (ev_str_bytes rfl ht1 ht2) rfl ?_
    refine ol_on rfl rfl rfl ?_; refine ol_ev (ev_load rfl m2 rfl) rfl ?_; refine ol_on rfl rfl rfl ?_; refine ol_ev (ev_ne_str rfl rfl) rfl ?_; refine ol_ev (ev_pick_f rfl rfl) rfl ?_; refine ol_ev (ev_assign rfl) rfl ?_; refine ol_nil ?_
    refine cw_ifd rfl (fun h1 => ?_) (fun h1 => ?_)
    · rw [if_neg (by simpa using h1)]
      refine cw_seq ?_; refine cw_region ?_; (iterate 3 (refine ol_ev (ev_move rfl) rfl ?_)); (iterate 3 (refine ol_ev (ev_assign rfl) rfl ?_)); refine ol_nil ?_; refine cw_ret ?_
      refine ⟨_, res3 rfl rfl rfl rfl, ?_⟩
      exact ⟨_, _, rfl, rfl, ⟨R', List.Perm.refl _, hI'⟩, hkk, tb, toff, tcap, to, rfl, ht1, ht2, ht3⟩
    · rw [if_pos (by simpa using h1)]
      cases fails with
      | true =>
        rw [if_pos rfl]
        refine cw_seq ?_; refine cw_region ?_; refine ol_ev (ev_load rfl m3 rfl) rfl ?_; refine ol_ev (ev_assign rfl) rfl ?_; refine ol_nil ?_; refine cw_if_t rfl ?_; refine cw_seq ?_
        refine cw_still mixed (by kernel_rfl) ?_
        refine sl_ev (ev_loadW rfl hE.c7) rfl ?_
        (iterate 3 (refine sl_ev (ev_assign rfl) rfl ?_)); refine sl_nil ?_
        refine cw_ret ?_
        refine ⟨_, res3 rfl rfl rfl rfl, ?_⟩
        exact ⟨_, _, rfl, rfl, ⟨R', List.Perm.refl _, hI'⟩, hkk, rfl⟩
      | false =>
        rw [if_neg (by simp)]
        refine cw_seq ?_; refine cw_region ?_; refine ol_ev (ev_load rfl m3 rfl) rfl ?_; refine ol_ev (ev_assign rfl) rfl ?_; refine ol_nil ?_; refine cw_if_f rfl ?_; refine cw_skip ?_; refine cw_seq ?_
        refine cw_still mixed (by kernel_rfl) ?_
        refine sl_ev (ev_move rfl) rfl ?_
        refine sl_ev (ev_loadW rfl hE.c6) rfl ?_
        (iterate 3 (refine sl_ev (ev_assign rfl) rfl ?_)); refine sl_nil ?_
        refine cw_ret ?_
        refine ⟨_, res3 rfl rfl rfl rfl, ?_⟩
        exact ⟨_, _, rfl, rfl, ⟨R', List.Perm.refl _, hI'⟩, hkk, rfl⟩

theorem meetF_ct (x : List UInt8) (fails : Bool) : Ct Tryd.prog W 54 #[.func (.func fid) #[] cap.toArray, str x, .bool fails] [] (fun v H' => ∃ ib xb fb, v = .func (.func 74) #[] [.pointer (some ⟨ib, 0, none⟩), .pointer (some ⟨xb, 0, none⟩), .pointer (some ⟨fb, 0, none⟩)].toArray ∧ H' = [(fb, ⟨[.bool fails], 4, (0, 0)⟩), (xb, ⟨[str x], 9, (0, 0)⟩), (ib, innO fid cap)]) := by
  refine ct_of_cw (vs := [_, _, _]) Tryd.func54 rfl rfl fun w1 => ?_
  refine cw_seq ?_; refine cw_region ?_
  refine ol_box rfl rfl fun ib => ?_
  refine ol_box rfl rfl fun xb => ?_
  refine ol_box rfl rfl fun fb => ?_
  refine ol_ev (ev_assign rfl) rfl ?_; refine ol_nil ?_; refine cw_seq ?_; refine cw_region ?_; refine ol_ev (ev_mkfunc3 rfl rfl rfl) rfl ?_; refine ol_ev (ev_assign rfl) rfl ?_; refine ol_nil ?_; refine cw_ret ?_
  exact ⟨_, res1 rfl rfl, ib, xb, fb, rfl, rfl⟩

theorem ev_sub_wrap {P : Program} {C : Cx} {H : Heap} {l : Env} {ty t yt : TypeId} {x : Operand} {n : Int} (hx : ev l x = some (.int .i64 n)) (hn : inI n) : Ev P C H l (.binOp .sub t x (.const (.int .i64 1)) yt) ty (.int .i64 (down n)) :=
  ev_bin hx rfl (fun _ _ => guard_int) (fun _ _ => by
    have : IntKind.i64.wrap (n - 1) = down n := by
      unfold down
      by_cases h : n = -9223372036854775808
      · subst h; rw [if_pos rfl]; decide
      · rw [if_neg h]
        obtain ⟨h1, h2⟩ := hn
        exact wrap_i64 ⟨by omega, by omega⟩
    simp [binOp, Op.intArith, this])
theorem down_in {n : Int} (h : inI n) : inI (down n) := by
  obtain ⟨h1, h2⟩ := h
  unfold down
  split <;> constructor <;> omega

theorem stray_ok (hsp : SplitOk W E fid cap step I) (hso : StepOk step) (ib nb fb : Nat) (far : Bool) : SplitOk W E 78 [.pointer (some ⟨ib, 0, none⟩), .pointer (some ⟨nb, 0, none⟩), .pointer (some ⟨fb, 0, none⟩)] (strayStep far step)
    (fun s T => inI s.2 ∧ ∃ R, T.Perm ((ib, innO fid cap) :: (nb, (⟨[.int .i64 s.2], 3, (0, 0)⟩ : HO)) :: (fb, (⟨[.bool far], 4, (0, 0)⟩ : HO)) :: R) ∧ I s.1 R) := by
  haveI hfn : TFn Tryd.prog fid := ⟨hsp.body⟩
  refine ⟨by kernel_rfl, fun s T T' hp ⟨h1, R, h2, h3⟩ => ⟨h1, R, hp.symm.trans h2, h3⟩, fun s T x ⟨h1, R, h2, h3⟩ => ⟨h1, x :: R, (h2.cons x).trans up3, hsp.more _ _ _ h3⟩, fun s d e c h => ?_, ?_⟩
  · rcases (stray_step hso).err s d e c h with rfl | rfl <;> omega
  rintro ⟨s, n⟩ T bb off dcap cells data atEOF ⟨hn, R, hp, hI⟩ hne hdat hle hcap hbig
  simp only at hn hp hI
  refine ct_of_cw (vs := [_, _, _, _, _]) Tryd.func78 rfl rfl fun w1 => ?_
  refine CW.perm (hp.cons _) ?_
  refine cw_seq ?_; refine cw_region ?_; (iterate 3 (refine ol_ev (ev_assign rfl) rfl ?_)); refine ol_nil ?_; refine cw_seq ?_; refine cw_region ?_; refine ol_ev (ev_load rfl m1 rfl) rfl ?_; refine ol_ev (ev_move rfl) rfl ?_; refine ol_ev (ev_move rfl) rfl ?_
  refine ol_call2 (G := (bb, ⟨cells, 5, (0, 0)⟩) :: R) (R := [(ib, innO fid cap), (nb, (⟨[.int .i64 n], 3, (0, 0)⟩ : HO)), (fb, (⟨[.bool far], 4, (0, 0)⟩ : HO))]) (cap := cap) rfl rfl rfl rfl (hsp.call s R bb off dcap cells data atEOF hI hne hdat hle hcap hbig) fr3 ?_
  rintro v G' ⟨tv, R', rfl, rfl, hI', hk, htok⟩
  refine OL.perm (K := (bb, ⟨cells, 5, (0, 0)⟩) :: (ib, innO fid cap) :: (nb, (⟨[.int .i64 n], 3, (0, 0)⟩ : HO)) :: (fb, (⟨[.bool far], 4, (0, 0)⟩ : HO)) :: R') fr3.symm ?_
  unfold strayStep
  simp only
  generalize step s data atEOF = a at hI' htok
  obtain ⟨adv, tok, err, st⟩ := a
  simp only at hI' htok ⊢
  have hkk : ∀ m k o, (k, o) ∈ T → o.elem = 5 → (k, o) ∈ (ib, innO fid cap) :: (nb, (⟨[.int .i64 m], 3, (0, 0)⟩ : HO)) :: (fb, (⟨[.bool far], 4, (0, 0)⟩ : HO)) :: R' := fun m => keep3 hp (by simp [innO]) (by simp) (by simp) hk
  cases tok with
  | none =>
    obtain rfl : tv = .slice none 0 0 := htok
    rw [if_pos rfl]
    refine ol_ev (ev_move rfl) rfl ?_; (iterate 3 (refine ol_ev (ev_extract rfl rfl) rfl ?_)); (iterate 3 (refine ol_ev (ev_assign rfl) rfl ?_)); refine ol_nil ?_; refine cw_seq ?_; refine cw_seq ?_; refine cw_region ?_; refine ol_ev (ev_move rfl) rfl ?_; refine ol_ev (ev_eqnil_s rfl) rfl ?_; refine ol_nil ?_; refine cw_if_t rfl ?_; refine cw_seq ?_; refine cw_region ?_; (iterate 3 (refine ol_ev (ev_move rfl) rfl ?_)); (iterate 3 (refine ol_ev (ev_assign rfl) rfl ?_)); refine ol_nil ?_; refine cw_ret ?_
    refine ⟨_, res3 rfl rfl rfl rfl, ?_⟩
    exact ⟨_, _, rfl, rfl, ⟨hn, R', List.Perm.refl _, hI'⟩, hkk n, rfl⟩
  | some t =>
    have htok2 : TokO ((bb, (⟨cells, 5, (0, 0)⟩ : HO)) :: R') tv (some t) := htok
    obtain ⟨tb, toff, tcap, to, rfl, _⟩ := htok
    rw [if_neg (by simp)]
    refine ol_ev (ev_move rfl) rfl ?_; (iterate 3 (refine ol_ev (ev_extract rfl rfl) rfl ?_)); (iterate 3 (refine ol_ev (ev_assign rfl) rfl ?_)); refine ol_nil ?_; refine cw_seq ?_; refine cw_seq ?_; refine cw_region ?_; refine ol_ev (ev_move rfl) rfl ?_; refine ol_ev (ev_eqnil_s rfl) rfl ?_; refine ol_nil ?_; refine cw_if_f rfl ?_; refine cw_skip ?_; refine cw_seq ?_; refine cw_seq ?_; refine cw_region ?_; refine ol_ev (ev_load rfl m2 rfl) rfl ?_
    refine ol_ev (ev_sub_wrap rfl hn) rfl ?_
    refine ol_store rfl rfl rfl u2 rfl rfl ?_; refine ol_nil ?_; refine cw_seq ?_; refine cw_region ?_; refine ol_ev (ev_load rfl m2 rfl) rfl ?_; refine ol_ev (ev_ge rfl rfl) rfl ?_; refine ol_nil ?_
    refine cw_ifd rfl (fun h1 => ?_) (fun h1 => ?_)
    · rw [if_pos h1]
      refine cw_seq ?_; refine cw_region ?_; (iterate 3 (refine ol_ev (ev_move rfl) rfl ?_)); (iterate 3 (refine ol_ev (ev_assign rfl) rfl ?_)); refine ol_nil ?_; refine cw_ret ?_
      refine ⟨_, res3 rfl rfl rfl rfl, ?_⟩
      exact ⟨_, _, rfl, rfl, ⟨down_in hn, R', List.Perm.refl _, hI'⟩, hkk _, tok3 htok2⟩
    · rw [if_neg h1]
      cases far with
      | true =>
        rw [if_pos rfl]
        refine cw_skip ?_; refine cw_seq ?_; refine cw_seq ?_; refine cw_region ?_; refine ol_ev (ev_load rfl m3 rfl) rfl ?_; refine ol_nil ?_; refine cw_if_t rfl ?_; refine cw_seq ?_; refine cw_region ?_; refine ol_ev (ev_move rfl) rfl ?_; refine ol_ev (ev_len_s rfl) rfl ?_; (refine ol_ev (ev_add rfl rfl ?_) rfl ?_; (constructor <;> omega)); (iterate 3 (refine ol_ev (ev_assign rfl) rfl ?_)); refine ol_nil ?_; refine cw_ret ?_
        refine ⟨_, res3 rfl rfl rfl rfl, ?_⟩
        exact ⟨_, _, rfl, rfl, ⟨down_in hn, R', List.Perm.refl _, hI'⟩, hkk _, rfl⟩
      | false =>
        rw [if_neg (by simp)]
        refine cw_skip ?_; refine cw_seq ?_; refine cw_seq ?_; refine cw_region ?_; refine ol_ev (ev_load rfl m3 rfl) rfl ?_; refine ol_nil ?_; refine cw_if_f rfl ?_; refine cw_skip ?_; refine cw_seq ?_; refine cw_region ?_; (iterate 3 (refine ol_ev (ev_assign rfl) rfl ?_)); refine ol_nil ?_; refine cw_ret ?_
        refine ⟨_, res3 rfl rfl rfl rfl, ?_⟩
        exact ⟨_, _, rfl, rfl, ⟨down_in hn, R', List.Perm.refl _, hI'⟩, hkk _, rfl⟩

theorem strayF_ct (n : Int) (far : Bool) : Ct Tryd.prog W 59 #[.func (.func fid) #[] cap.toArray, .int .i64 n, .bool far] [] (fun v H' => ∃ ib nb fb, v = .func (.func 78) #[] [.pointer (some ⟨ib, 0, none⟩), .pointer (some ⟨nb, 0, none⟩), .pointer (some ⟨fb, 0, none⟩)].toArray ∧ H' = [(fb, ⟨[.bool far], 4, (0, 0)⟩), (nb, ⟨[.int .i64 n], 3, (0, 0)⟩), (ib, innO fid cap)]) := by
  refine ct_of_cw (vs := [_, _, _]) Tryd.func59 rfl rfl fun w1 => ?_
  refine cw_seq ?_; refine cw_region ?_
  refine ol_box rfl rfl fun ib => ?_
  refine ol_box rfl rfl fun nb => ?_
  refine ol_box rfl rfl fun fb => ?_
  refine ol_ev (ev_assign rfl) rfl ?_; refine ol_nil ?_; refine cw_seq ?_; refine cw_region ?_; refine ol_ev (ev_mkfunc3 rfl rfl rfl) rfl ?_; refine ol_ev (ev_assign rfl) rfl ?_; refine ol_nil ?_; refine cw_ret ?_
  exact ⟨_, res1 rfl rfl, ib, nb, fb, rfl, rfl⟩
end
end Go.HE

set_option maxRecDepth 100000
set_option maxHeartbeats 4000000
namespace Go.HE
open Go.RowKit Go.Proofs

theorem St.self {W w : World} {H : Heap} (h1 : Below W.heap.size W w) (h2 : Own H w) (h3 : ∀ b o, (b, o) ∈ H → W.heap.size ≤ b) : St W w (H.map (·.1)) H w :=
  ⟨h1, h2, h3, Nat.le_refl _, fun _ _ _ => rfl, fun b o hm => .inl (List.mem_map.2 ⟨(b, o), hm, rfl⟩)⟩

section
variable {W : World} {E : Nat → Addr} {σ : Type} {fid : Nat} {cap : List Value} {step : σ → List UInt8 → Bool → Ans σ} {I : σ → Heap → Prop}

/-- A function that makes another token of a token, by its contract: J is its own memory. -/
structure ChOk (W : World) (gid : Nat) (gcap : List Value) (f : List UInt8 → List UInt8) (J : Heap) : Prop where
  body : hasBody Tryd.prog gid = true
  le : ∀ t, (f t).length ≤ t.length
  call : ∀ (H : Heap) (tv : Value) (t : List UInt8), TokAt H tv t → (∀ p ∈ J, p ∈ H) → t.length ≤ 140737488355328 →
    Ct Tryd.prog W gid (tv :: gcap).toArray H (fun v H' => ∃ N, H' = N ++ H ∧ TokAt H' v (f t))

theorem head_ok (nb : Nat) (n : Int) : ChOk W 77 [.pointer (some ⟨nb, 0, none⟩)] (fun t => t.take n.toNat) [(nb, (⟨[.int .i64 n], 3, (0, 0)⟩ : HO))] := by
  refine ⟨by kernel_rfl, fun t => by rw [List.length_take]; omega, ?_⟩
  rintro H tv t ⟨b, off, c, o, rfl, h2, h3, h4, h5⟩ hJ hbig
  have hn := hJ _ List.mem_cons_self
  refine ct_of_cw (vs := [_, _]) Tryd.func77 rfl rfl fun w1 => ?_
  refine cw_seq ?_; refine cw_region ?_; refine ol_ev (ev_assign rfl) rfl ?_; refine ol_nil ?_; refine cw_seq ?_; refine cw_region ?_; refine ol_ev (ev_move rfl) rfl ?_; refine ol_ev (ev_move rfl) rfl ?_; refine ol_ev (ev_len_s rfl) rfl ?_
  refine ol_ev (ev_load rfl hn rfl) rfl ?_
  refine ol_ev (ev_max rfl rfl) rfl ?_; refine ol_ev (ev_min rfl rfl) rfl ?_
  refine ol_ev (ev_slice_to rfl rfl (by omega) (by omega)) rfl ?_
  refine ol_ev (ev_assign rfl) rfl ?_; refine ol_nil ?_; refine cw_ret ?_
  have hl : (t.take n.toNat).length = (min ((t.length : Nat) : Int) (max n 0)).toNat := by rw [List.length_take]; omega
  refine ⟨_, res1 rfl rfl, [], rfl, b, off, c, o, ?_, h2, ?_, h4, ?_⟩
  · rw [hl]
  · have := congrArg (List.take (t.take n.toNat).length) h3
    rw [List.take_take, Nat.min_eq_left (by rw [List.length_take]; omega), bcells_take] at this
    rw [this]
    congr 1
    rw [List.length_take, Nat.min_comm, ← List.take_take, List.take_of_length_le (by rw [List.length_take]; omega)]
  · rw [List.length_take]; omega

theorem headF_ct (n : Int) : Ct Tryd.prog W 57 #[.int .i64 n] [] (fun v H' => ∃ nb, v = .func (.func 77) #[] [.pointer (some ⟨nb, 0, none⟩)].toArray ∧ H' = [(nb, ⟨[.int .i64 n], 3, (0, 0)⟩)]) := by
  refine ct_of_cw (vs := [_]) Tryd.func57 rfl rfl fun w1 => ?_
  refine cw_seq ?_; refine cw_region ?_
  refine ol_box rfl rfl fun nb => ?_
  refine ol_ev (ev_assign rfl) rfl ?_; refine ol_nil ?_; refine cw_seq ?_; refine cw_region ?_; refine ol_ev (ev_mkfunc1 rfl) rfl ?_; refine ol_ev (ev_assign rfl) rfl ?_; refine ol_nil ?_; refine cw_ret ?_
  exact ⟨_, res1 rfl rfl, nb, rfl, rfl⟩

theorem back_ok : ChOk W 58 [] List.reverse [] := by
  refine ⟨by kernel_rfl, fun t => by simp, ?_⟩
  rintro H tv t ⟨b, off, c, o, rfl, h2, h3, h4, h5⟩ _ hbig
  refine ct_of_cw (vs := [_]) Tryd.func58 rfl rfl fun w1 => ?_
  refine cw_seq ?_; refine cw_region ?_; refine ol_ev (ev_assign rfl) rfl ?_; refine ol_nil ?_; refine cw_seq ?_; refine cw_region ?_
  refine ol_slice0 rfl fun ob => ?_
  refine ol_ev (ev_assign rfl) rfl ?_; refine ol_nil ?_; refine cw_seq ?_; refine cw_seq ?_; refine cw_region ?_; refine ol_ev (ev_move rfl) rfl ?_; refine ol_ev (ev_len_s rfl) rfl ?_; (refine ol_ev (ev_sub rfl rfl ?_) rfl ?_; (constructor <;> omega)); refine ol_ev (ev_assign rfl) rfl ?_; refine ol_nil ?_; refine cw_block ?_
  refine cw_loop (σ := Nat × Nat × List Value) (fun g => [(0, .slice (some ⟨b, off, none⟩) t.length c), (3, .slice (some ⟨g.2.1, 0, none⟩) (t.drop g.1).reverse.length ((t.drop g.1).reverse.length + g.2.2.length)), (4, .int .i64 ((g.1 : Int) - 1))]) (fun g => (g.2.1, (⟨bcells (t.drop g.1).reverse ++ g.2.2, 5, (0, 0)⟩ : HO)) :: H)
    (fun g => g.1 ≤ t.length) (fun g => g.1) (t.length, ob, []) (Nat.le_refl _) (fun a ha => ha.weak ⟨rfl, ?_, rfl, trivial⟩) ?_ ?_
  · show some (Value.slice _ _ _) = some (Value.slice _ _ _)
    simp
  · show _ :: _ = _ :: _
    simp [bcells]
  rintro ⟨i, ob, sp⟩ hi
  simp only at hi ⊢
  refine cw_seq ?_; refine cw_seq ?_; refine cw_region ?_; refine ol_ev (ev_move rfl) rfl ?_; refine ol_ev (ev_ge rfl rfl) rfl ?_; refine ol_nil ?_
  refine cw_ifd rfl (fun h0 => ?_) (fun h0 => ?_)
  · obtain ⟨k, rfl⟩ : ∃ k, i = k + 1 := ⟨i - 1, by omega⟩
    have hx : k < t.length := by omega
    have hk : ((k + 1 : Nat) : Int) - 1 = (k : Int) := by omega
    rw [hk]
    have k1 : o.cells[off + ((k : Nat) : Int).toNat]? = some (bv t[k]) := by
      rw [show ((k : Nat) : Int).toNat = k by omega]
      have := congrArg (·[k]?) h3
      simp only [List.getElem?_take_of_lt hx, List.getElem?_drop] at this
      rw [this]; simp [bcells, hx]
    have hrev : (t.drop k).reverse = (t.drop (k + 1)).reverse ++ [t[k]] := by
      rw [List.drop_eq_getElem_cons hx, List.reverse_cons]
    refine cw_skip ?_; refine cw_seq ?_; refine cw_block ?_; refine cw_region ?_; (iterate 3 (refine ol_ev (ev_move rfl) rfl ?_))
    refine ol_ev (ev_idx1 rfl rfl (by omega) (by omega)) rfl ?_
    refine ol_ev (ev_load rfl (List.mem_cons_of_mem _ h2) k1) rfl ?_
    refine ol_slice1 rfl rfl rfl rfl fun b1 => ?_
    refine ol_append (xs := bcells (t.drop (k + 1)).reverse) (sp := sp) (ys := [bv t[k]]) rfl rfl (fun _ _ => r1) m0 (by simp [bcells]) (by simp [bcells]) rfl rfl (by intro u hu; simp only [List.mem_singleton] at hu; subst hu; rfl) rfl (by simp; omega) (by simp; omega) rfl ?_
    intro b' sp'
    refine OL.less (List.sublist_cons_self _ _) ?_
    refine ol_ev (ev_assign rfl) rfl ?_; refine ol_nil ?_; refine cw_region ?_; refine ol_ev (ev_move rfl) rfl ?_; (refine ol_ev (ev_sub rfl rfl ?_) rfl ?_; (constructor <;> omega)); refine ol_ev (ev_assign rfl) rfl ?_; refine ol_nil ?_
    refine ⟨(k, b', sp'), by show k ≤ t.length; omega, ⟨rfl, ?_, rfl, trivial⟩, ?_, Nat.lt_succ_self k⟩
    · show some (Value.slice _ _ _) = some (Value.slice _ _ _)
      rw [hrev]
      simp [bcells]
    · show _ :: _ = _ :: _
      rw [hrev, bcells_append]; rfl
  · have hi0 : i = 0 := by omega
    subst hi0
    rw [List.drop_zero]
    refine cw_exit ?_; refine cw_seq ?_; refine cw_region ?_; refine ol_ev (ev_move rfl) rfl ?_; refine ol_ev (ev_assign rfl) rfl ?_; refine ol_nil ?_; refine cw_ret ?_
    refine ⟨_, res1 rfl rfl, [(ob, _)], rfl, ob, 0, _, _, rfl, m0, ?_, rfl, Nat.le_add_right _ _⟩
    show (bcells t.reverse ++ sp).take t.reverse.length = bcells t.reverse
    rw [show t.reverse.length = (bcells t.reverse).length by simp [bcells]]
    simp

/-- The cell of a closure that holds the function that changes tokens. -/
def chO (gid : Nat) (gcap : List Value) : HO := ⟨[.func (.func gid) #[] gcap.toArray], 98, (0, 0)⟩

theorem change_ok (hsp : SplitOk W E fid cap step I) (hso : StepOk step) {gid : Nat} {gcap : List Value} {f : List UInt8 → List UInt8} {J : Heap} (hg : ChOk W gid gcap f J) (hJ : ∀ p ∈ J, p.2.elem ≠ 5) (ib gb : Nat) : SplitOk W E 76 [.pointer (some ⟨ib, 0, none⟩), .pointer (some ⟨gb, 0, none⟩)] (chStep f step)
    (fun s T => ∃ R, T.Perm ((ib, innO fid cap) :: (gb, chO gid gcap) :: (J ++ R)) ∧ I s R) := by
  haveI hfn : TFn Tryd.prog fid := ⟨hsp.body⟩
  haveI hgn : TFn Tryd.prog gid := ⟨hg.body⟩
  have happ : ∀ (N R : Heap) s, I s R → I s (N ++ R) := fun N => by
    induction N with
    | nil => exact fun R s h => h
    | cons x N ih => exact fun R s h => hsp.more _ _ _ (ih R s h)
  refine ⟨by kernel_rfl, fun s T T' hp ⟨R, h2, h3⟩ => ⟨R, hp.symm.trans h2, h3⟩, fun s T x ⟨R, h2, h3⟩ => ⟨x :: R, (h2.cons x).trans (up2.trans ((List.perm_middle.symm.cons _).cons _)), hsp.more _ _ _ h3⟩, fun s d e c h => ?_, ?_⟩
  · rcases (ch_step hso hg.le).err s d e c h with rfl | rfl <;> omega
  rintro s T bb off dcap cells data atEOF ⟨R, hp, hI⟩ hne hdat hle hcap hbig
  refine ct_of_cw (vs := [_, _, _, _]) Tryd.func76 rfl rfl fun w1 => ?_
  refine CW.perm (hp.cons _) ?_
  refine cw_seq ?_; refine cw_region ?_; (iterate 3 (refine ol_ev (ev_assign rfl) rfl ?_)); refine ol_nil ?_; refine cw_seq ?_; refine cw_region ?_; refine ol_ev (ev_load rfl m1 rfl) rfl ?_; refine ol_ev (ev_move rfl) rfl ?_; refine ol_ev (ev_move rfl) rfl ?_
  refine ol_call2 (G := (bb, ⟨cells, 5, (0, 0)⟩) :: R) (R := (ib, innO fid cap) :: (gb, chO gid gcap) :: J) (cap := cap) rfl rfl rfl rfl (hsp.call s R bb off dcap cells data atEOF hI hne hdat hle hcap hbig) ((List.perm_append_comm (l₁ := (ib, innO fid cap) :: (gb, chO gid gcap) :: J) (l₂ := R)).cons _) ?_
  rintro v G' ⟨tv, R', rfl, rfl, hI', hk, htok⟩
  refine OL.perm (K := (bb, ⟨cells, 5, (0, 0)⟩) :: (ib, innO fid cap) :: (gb, chO gid gcap) :: (J ++ R')) ((List.perm_append_comm (l₁ := R') (l₂ := (ib, innO fid cap) :: (gb, chO gid gcap) :: J)).cons _) ?_
  have htl := hso.tok s data atEOF
  unfold chStep
  generalize step s data atEOF = a at hI' htok htl
  obtain ⟨adv, tok, err, st⟩ := a
  simp only at hI' htok htl ⊢
  have hkk : ∀ (N : Heap) k o, (k, o) ∈ T → o.elem = 5 → (k, o) ∈ (ib, innO fid cap) :: (gb, chO gid gcap) :: (J ++ (N ++ R')) := fun N k o hm he => by
    rcases List.mem_cons.1 (hp.subset hm) with h | h
    · cases h; exact absurd he (by simp [innO])
    rcases List.mem_cons.1 h with h | h
    · cases h; exact absurd he (by simp [chO])
    rcases List.mem_append.1 h with h | h
    · exact absurd he (hJ _ h)
    · exact List.mem_cons_of_mem _ (List.mem_cons_of_mem _ (List.mem_append_right _ (List.mem_append_right _ (hk k o h he))))
  cases tok with
  | none =>
    obtain rfl : tv = .slice none 0 0 := htok
    refine ol_ev (ev_move rfl) rfl ?_; (iterate 3 (refine ol_ev (ev_extract rfl rfl) rfl ?_)); (iterate 3 (refine ol_ev (ev_assign rfl) rfl ?_)); refine ol_nil ?_; refine cw_seq ?_; refine cw_seq ?_; refine cw_region ?_; refine ol_ev (ev_move rfl) rfl ?_; refine ol_ev (ev_nenil_s rfl) rfl ?_; refine ol_nil ?_; refine cw_if_f rfl ?_; refine cw_skip ?_; refine cw_seq ?_; refine cw_region ?_; (iterate 3 (refine ol_ev (ev_move rfl) rfl ?_)); (iterate 3 (refine ol_ev (ev_assign rfl) rfl ?_)); refine ol_nil ?_; refine cw_ret ?_
    refine ⟨_, res3 rfl rfl rfl rfl, ?_⟩
    exact ⟨_, _, rfl, rfl, ⟨R', List.Perm.refl _, hI'⟩, hkk [], rfl⟩
  | some t =>
    have hlt := (htl t hne rfl).2.2.2
    have htok2 : TokAt ((bb, (⟨cells, 5, (0, 0)⟩ : HO)) :: (ib, innO fid cap) :: (gb, chO gid gcap) :: (J ++ R')) tv t := by
      obtain ⟨tb, toff, tcap, to, h1, h2, h3⟩ := htok
      refine ⟨tb, toff, tcap, to, h1, ?_, h3⟩
      rcases List.mem_cons.1 h2 with h2 | h2
      · rw [h2]; exact List.mem_cons_self
      · exact List.mem_cons_of_mem _ (List.mem_cons_of_mem _ (List.mem_cons_of_mem _ (List.mem_append_right _ h2)))
    have hcall := hg.call _ tv t htok2 (fun p hp => List.mem_cons_of_mem _ (List.mem_cons_of_mem _ (List.mem_cons_of_mem _ (List.mem_append_left _ hp)))) (by omega)
    obtain ⟨tb, toff, tcap, to, rfl, _⟩ := htok
    refine ol_ev (ev_move rfl) rfl ?_; (iterate 3 (refine ol_ev (ev_extract rfl rfl) rfl ?_)); (iterate 3 (refine ol_ev (ev_assign rfl) rfl ?_)); refine ol_nil ?_; refine cw_seq ?_; refine cw_seq ?_; refine cw_region ?_; refine ol_ev (ev_move rfl) rfl ?_; refine ol_ev (ev_nenil_s rfl) rfl ?_; refine ol_nil ?_; refine cw_if_t rfl ?_; refine cw_region ?_; refine ol_ev (ev_load rfl m2 rfl) rfl ?_; refine ol_ev (ev_move rfl) rfl ?_
    refine ol_call1 (R := []) (cap := gcap) rfl rfl rfl hcall (List.Perm.of_eq (List.append_nil _).symm) ?_
    rintro v G2 ⟨N, rfl, hv⟩
    refine OL.nil_app ?_
    refine OL.perm (K := (bb, ⟨cells, 5, (0, 0)⟩) :: (ib, innO fid cap) :: (gb, chO gid gcap) :: (J ++ (N ++ R'))) (List.perm_append_comm_assoc N ((bb, (⟨cells, 5, (0, 0)⟩ : HO)) :: (ib, innO fid cap) :: (gb, chO gid gcap) :: J) R') ?_
    have hv2 : TokAt ((bb, (⟨cells, 5, (0, 0)⟩ : HO)) :: (ib, innO fid cap) :: (gb, chO gid gcap) :: (J ++ (N ++ R'))) v (f t) := by
      obtain ⟨ub, uoff, ucap, uo, h1, h2, h3⟩ := hv
      exact ⟨ub, uoff, ucap, uo, h1, (List.perm_append_comm_assoc N ((bb, (⟨cells, 5, (0, 0)⟩ : HO)) :: (ib, innO fid cap) :: (gb, chO gid gcap) :: J) R').subset h2, h3⟩
    refine ol_ev (ev_assign rfl) rfl ?_; refine ol_nil ?_; refine cw_seq ?_; refine cw_region ?_; (iterate 3 (refine ol_ev (ev_move rfl) rfl ?_)); (iterate 3 (refine ol_ev (ev_assign rfl) rfl ?_)); refine ol_nil ?_; refine cw_ret ?_
    refine ⟨_, res3 rfl rfl rfl rfl, ?_⟩
    exact ⟨_, _, rfl, rfl, ⟨N ++ R', List.Perm.refl _, happ N R' st hI'⟩, hkk N, hv2⟩

theorem changeF_ct (gid : Nat) (gcap : List Value) : Ct Tryd.prog W 56 #[.func (.func fid) #[] cap.toArray, .func (.func gid) #[] gcap.toArray] [] (fun v H' => ∃ ib gb, v = .func (.func 76) #[] [.pointer (some ⟨ib, 0, none⟩), .pointer (some ⟨gb, 0, none⟩)].toArray ∧ H' = [(gb, chO gid gcap), (ib, innO fid cap)]) := by
  refine ct_of_cw (vs := [_, _]) Tryd.func56 rfl rfl fun w1 => ?_
  refine cw_seq ?_; refine cw_region ?_
  refine ol_box rfl rfl fun ib => ?_
  refine ol_box rfl rfl fun gb => ?_
  refine ol_ev (ev_assign rfl) rfl ?_; refine ol_nil ?_; refine cw_seq ?_; refine cw_region ?_; refine ol_ev (ev_mkfunc2 rfl rfl) rfl ?_; refine ol_ev (ev_assign rfl) rfl ?_; refine ol_nil ?_; refine cw_ret ?_
  exact ⟨_, res1 rfl rfl, ib, gb, rfl, rfl⟩

/-- What 'drop' answers when it has skipped k bytes, by what it answers on the rest. -/
def addA (k : Nat) (b : Ans σ) : Ans σ := if b.adv < 0 then b else ⟨(k : Int) + b.adv, b.tok, b.err, b.st⟩
theorem addA_zero (b : Ans σ) : addA 0 b = b := by
  unfold addA
  split
  · rfl
  · obtain ⟨x, y, z, w⟩ := b
    simp

theorem addA_add (k j : Nat) (b : Ans σ) : addA k (addA j b) = addA (k + j) b := by
  unfold addA
  by_cases h : b.adv < 0
  · rw [if_pos h, if_pos h, if_pos h]
  · rw [if_neg h, if_neg h]
    simp only
    rw [if_neg (by omega)]
    congr 1
    omega

theorem drop_ok (hsp : SplitOk W E fid cap step I) (hso : StepOk step) (ib xb : Nat) (x : List UInt8) : SplitOk W E 75 [.pointer (some ⟨ib, 0, none⟩), .pointer (some ⟨xb, 0, none⟩)] (dropStep x step)
    (fun s T => ∃ R, T.Perm ((ib, innO fid cap) :: (xb, (⟨[str x], 9, (0, 0)⟩ : HO)) :: R) ∧ I s R) := by
  haveI hfn : TFn Tryd.prog fid := ⟨hsp.body⟩
  refine ⟨by kernel_rfl, fun s T T' hp ⟨R, h2, h3⟩ => ⟨R, hp.symm.trans h2, h3⟩, fun s T x ⟨R, h2, h3⟩ => ⟨x :: R, (h2.cons x).trans up2, hsp.more _ _ _ h3⟩, fun s d e c h => ?_, ?_⟩
  · rcases (drop_step hso).err s d e c h with rfl | rfl <;> omega
  rintro s T bb off dcap cells data atEOF ⟨R, hp, hI⟩ hne hdat hle hcap hbig
  refine ct_of_cw (vs := [_, _, _, _]) Tryd.func75 rfl rfl fun w1 => ?_
  refine CW.perm (hp.cons _) ?_
  unfold dropStep
  refine cw_seq ?_; refine cw_region ?_; (iterate 3 (refine ol_ev (ev_assign rfl) rfl ?_)); refine ol_nil ?_; refine cw_seq ?_; refine cw_region ?_; refine ol_ev (ev_assign rfl) rfl ?_; refine ol_nil ?_; refine cw_block ?_
  refine cw_loop (σ := Nat × Nat × σ × Heap) (fun g => [(0, .slice (some ⟨bb, off, none⟩) data.length dcap), (1, .bool atEOF), (2, .pointer (some ⟨ib, 0, none⟩)), (3, .pointer (some ⟨xb, 0, none⟩)), (9, .int .i64 (g.1 : Int))]) (fun g => (bb, (⟨cells, 5, (0, 0)⟩ : HO)) :: (ib, innO fid cap) :: (xb, (⟨[str x], 9, (0, 0)⟩ : HO)) :: g.2.2.2)
    (fun g => g.1 ≤ data.length ∧ (data.drop g.1).length < g.2.1 ∧ (data.drop g.1 ≠ [] ∨ atEOF = true) ∧ dropF x step (data.length + 1) s data atEOF = addA g.1 (dropF x step g.2.1 g.2.2.1 (data.drop g.1) atEOF) ∧ I g.2.2.1 g.2.2.2 ∧ ∀ k o, (k, o) ∈ R → o.elem = 5 → (k, o) ∈ g.2.2.2)
    (fun g => g.2.1) (0, data.length + 1, s, R) ⟨Nat.zero_le _, by simp, by simpa using hne, by show _ = addA 0 (dropF x step (data.length + 1) s (data.drop 0) atEOF); rw [addA_zero, List.drop_zero], hI, fun _ _ h _ => h⟩ (fun a ha => ha.weak ⟨rfl, rfl, rfl, rfl, rfl, trivial⟩) rfl ?_
  rintro ⟨k, fu, s', R⟩ ⟨hk, hfu, hne', heq, hI, hkeep⟩
  simp only at hk hfu hne' heq hI hkeep ⊢
  have hgo := heq
  rw [hgo]
  clear hgo
  cases fu with
  | zero => omega
  | succ fu =>
  have hlen : (data.drop k).length = data.length - k := List.length_drop
  have hd2 : (cells.drop (if dcap = k then off else off + k)).take (data.drop k).length = bcells (data.drop k) := by
    by_cases hc : dcap = k
    · have : data.drop k = [] := List.drop_of_length_le (by omega)
      rw [this]; rfl
    · rw [if_neg hc, hlen, ← bcells_drop, ← hdat, ← List.drop_drop, List.drop_take]
  have hle2 : (if dcap = k then off else off + k) + (data.drop k).length ≤ cells.length := by split <;> omega
  refine cw_block ?_; refine cw_seq ?_
  refine cw_mid 5 mixed (by kernel_rfl) rfl ?_
  refine sl_ev (ev_load rfl m1 rfl) rfl ?_; refine sl_ev (ev_move rfl) rfl ?_; refine sl_ev (ev_move rfl) rfl ?_
  refine sl_ev (ev_slice_from rfl rfl (by omega) (by omega)) rfl ?_
  rw [show ((k : Nat) : Int).toNat = k by omega]
  generalize (if dcap = k then off else off + k) = off2 at hd2 hle2 ⊢
  refine sl_ev (ev_move rfl) rfl ?_; refine sl_nil ?_
  have hcall := hsp.call s' R bb off2 (dcap - k) cells (data.drop k) atEOF hI hne' hd2 hle2 (by omega) (by omega)
  rw [hlen] at hcall
  refine ol_call2 (G := (bb, ⟨cells, 5, (0, 0)⟩) :: R) (R := [(ib, innO fid cap), (xb, (⟨[str x], 9, (0, 0)⟩ : HO))]) (cap := cap) rfl rfl rfl rfl hcall fr2 ?_
  rintro v G' ⟨tv, R', rfl, rfl, hI', hkk, htok⟩
  refine OL.perm (K := (bb, ⟨cells, 5, (0, 0)⟩) :: (ib, innO fid cap) :: (xb, (⟨[str x], 9, (0, 0)⟩ : HO)) :: R') fr2.symm ?_
  refine ol_nil ?_
  refine sl_ev (ev_move rfl) rfl ?_; (iterate 3 (refine sl_ev (ev_extract rfl rfl) rfl ?_)); (iterate 3 (refine sl_ev (ev_assign rfl) rfl ?_)); refine sl_nil ?_
  have hout : ∀ kk o, (kk, o) ∈ T → o.elem = 5 → (kk, o) ∈ (ib, innO fid cap) :: (xb, (⟨[str x], 9, (0, 0)⟩ : HO)) :: R' := keep2 hp (by simp [innO]) (by simp) fun kk o hm he => hkk kk o (hkeep kk o hm he) he
  have htl := hso.tok s' (data.drop k) atEOF
  have hrg := hso.rng s' (data.drop k) atEOF hne'
  have hF : dropF x step (fu + 1) s' (data.drop k) atEOF = if (step s' (data.drop k) atEOF).tok ≠ some x then step s' (data.drop k) atEOF
    else if (step s' (data.drop k) atEOF).err ≠ none then ⟨(step s' (data.drop k) atEOF).adv, none, (step s' (data.drop k) atEOF).err, (step s' (data.drop k) atEOF).st⟩
    else if atEOF = false ∧ (step s' (data.drop k) atEOF).adv.toNat = (data.drop k).length then ⟨(step s' (data.drop k) atEOF).adv, none, none, (step s' (data.drop k) atEOF).st⟩
    else addA (step s' (data.drop k) atEOF).adv.toNat (dropF x step fu (step s' (data.drop k) atEOF).st ((data.drop k).drop (step s' (data.drop k) atEOF).adv.toNat) atEOF) := by
    conv => lhs; unfold dropF
    split
    · rfl
    · split
      · rfl
      · split
        · rfl
        · rename_i h1 h2 h3
          have h1' : (step s' (data.drop k) atEOF).tok = some x := Classical.not_not.1 h1
          have h2' : (step s' (data.drop k) atEOF).err = none := Classical.not_not.1 h2
          have := drop_round hso hne' h1' h2'
          unfold addA
          simp only
          rw [show (((step s' (data.drop k) atEOF).adv.toNat : Nat) : Int) = (step s' (data.drop k) atEOF).adv by omega]
  rw [hF] at heq ⊢
  clear hF
  rw [hlen] at hrg htl heq ⊢
  generalize step s' (data.drop k) atEOF = a at hI' htok htl hrg heq
  obtain ⟨adv, tok, err, st⟩ := a
  simp only at hI' htok htl hrg heq ⊢
  by_cases hneg : adv < 0
  · have htn : tok = none := by
      cases tok with
      | none => rfl
      | some t => have := htl t hne' rfl; omega
    subst htn
    obtain rfl : tv = .slice none 0 0 := htok
    rw [if_pos (by simp)]
    unfold addA
    simp only
    rw [if_pos hneg]
    refine cw_seq ?_; refine cw_seq ?_; refine cw_region ?_; refine ol_ev (ev_move rfl) rfl ?_; refine ol_ev (ev_lt rfl rfl) rfl ?_; refine ol_nil ?_
    rw [decide_eq_true hneg]
    refine cw_if_t rfl ?_; refine cw_seq ?_; refine cw_region ?_; (iterate 3 (refine ol_ev (ev_move rfl) rfl ?_)); (iterate 3 (refine ol_ev (ev_assign rfl) rfl ?_)); refine ol_nil ?_; refine cw_ret ?_
    refine ⟨_, res3 rfl rfl rfl rfl, ?_⟩
    exact ⟨_, _, rfl, rfl, ⟨R', List.Perm.refl _, hI'⟩, hout, rfl⟩
  refine cw_seq ?_; refine cw_seq ?_; refine cw_region ?_; refine ol_ev (ev_move rfl) rfl ?_; refine ol_ev (ev_lt rfl rfl) rfl ?_; refine ol_nil ?_
  rw [decide_eq_false hneg]
  cases tok with
  | none =>
    obtain rfl : tv = .slice none 0 0 := htok
    rw [if_pos (by simp)]
    unfold addA
    simp only
    rw [if_neg hneg]
    refine cw_if_f rfl ?_; refine cw_skip ?_; refine cw_seq ?_; refine cw_seq ?_; refine cw_region ?_; refine ol_ev (ev_move rfl) rfl ?_; refine ol_ev (ev_eqnil_s rfl) rfl ?_; refine ol_ev (ev_move rfl) rfl ?_; (iterate 4 (refine ol_off rfl rfl rfl rfl rfl ?_)); refine ol_ev (ev_pick_t rfl rfl) rfl ?_; refine ol_nil ?_; refine cw_if_t rfl ?_; refine cw_seq ?_; refine cw_region ?_; refine ol_ev (ev_move rfl) rfl ?_; refine ol_ev (ev_move rfl) rfl ?_; (refine ol_ev (ev_add rfl rfl ?_) rfl ?_; (constructor <;> omega)); refine ol_ev (ev_move rfl) rfl ?_; refine ol_ev (ev_move rfl) rfl ?_; (iterate 3 (refine ol_ev (ev_assign rfl) rfl ?_)); refine ol_nil ?_; refine cw_ret ?_
    refine ⟨_, res3 rfl rfl rfl rfl, ?_⟩
    exact ⟨_, _, rfl, rfl, ⟨R', List.Perm.refl _, hI'⟩, hout, rfl⟩
  | some t =>
    have htk := htl t hne' rfl
    have htok2 : TokO ((bb, (⟨cells, 5, (0, 0)⟩ : HO)) :: (ib, innO fid cap) :: (xb, (⟨[str x], 9, (0, 0)⟩ : HO)) :: R') tv (some t) := tok2 htok
    obtain ⟨tb, toff, tcap, to, rfl, ht1, ht2, ht3⟩ := htok2
    refine cw_if_f rfl ?_; refine cw_skip ?_; refine cw_seq ?_; refine cw_seq ?_; refine cw_region ?_; refine ol_ev (ev_move rfl) rfl ?_; refine ol_ev (ev_eqnil_s rfl) rfl ?_; refine ol_ev (ev_move rfl) rfl ?_; refine ol_on rfl rfl rfl ?_; refine ol_ev (ev_move rfl) rfl ?_; refine ol_on rfl rfl rfl ?_
    refine ol_ev (ev_str_bytes rfl ht1 ht2) rfl ?_
    refine ol_on rfl rfl rfl ?_; refine ol_ev (ev_load rfl m2 rfl) rfl ?_; refine ol_on rfl rfl rfl ?_; refine ol_ev (ev_ne_str rfl rfl) rfl ?_; refine ol_ev (ev_pick_f rfl rfl) rfl ?_; refine ol_nil ?_
    refine cw_ifd rfl (fun h1 => ?_) (fun h1 => ?_)
    · rw [if_pos (by simpa using h1)]
      unfold addA
      simp only
      rw [if_neg hneg]
      refine cw_seq ?_; refine cw_region ?_; refine ol_ev (ev_move rfl) rfl ?_; refine ol_ev (ev_move rfl) rfl ?_; (refine ol_ev (ev_add rfl rfl ?_) rfl ?_; (constructor <;> omega)); refine ol_ev (ev_move rfl) rfl ?_; refine ol_ev (ev_move rfl) rfl ?_; (iterate 3 (refine ol_ev (ev_assign rfl) rfl ?_)); refine ol_nil ?_; refine cw_ret ?_
      refine ⟨_, res3 rfl rfl rfl rfl, ?_⟩
      exact ⟨_, _, rfl, rfl, ⟨R', List.Perm.refl _, hI'⟩, hout, tb, toff, tcap, to, rfl, ht1, ht2, ht3⟩
    · rw [if_neg (by simpa using h1)]
      cases err with
      | some c =>
        rw [if_pos (by simp)]
        unfold addA
        simp only
        rw [if_neg hneg]
        refine cw_skip ?_; refine cw_seq ?_; refine cw_seq ?_; refine cw_region ?_; refine ol_ev (ev_move rfl) rfl ?_; refine ol_ev (ev_nenil_i rfl) rfl ?_; refine ol_nil ?_; refine cw_if_t rfl ?_; refine cw_seq ?_; refine cw_region ?_; refine ol_ev (ev_move rfl) rfl ?_; refine ol_ev (ev_move rfl) rfl ?_; (refine ol_ev (ev_add rfl rfl ?_) rfl ?_; (constructor <;> omega)); refine ol_ev (ev_move rfl) rfl ?_; (iterate 3 (refine ol_ev (ev_assign rfl) rfl ?_)); refine ol_nil ?_; refine cw_ret ?_
        refine ⟨_, res3 rfl rfl rfl rfl, ?_⟩
        exact ⟨_, _, rfl, rfl, ⟨R', List.Perm.refl _, hI'⟩, hout, rfl⟩
      | none =>
        rw [if_neg (by simp)]
        have hpos : 0 < adv := by
          rcases htk.1 with h | h
          · exact h.2
          · cases h
        cases atEOF with
        | false =>
          by_cases hall : adv.toNat = data.length - k
          · rw [if_pos ⟨rfl, hall⟩]
            unfold addA
            simp only
            rw [if_neg hneg]
            refine cw_skip ?_; refine cw_seq ?_; refine cw_seq ?_; refine cw_region ?_; refine ol_ev (ev_move rfl) rfl ?_; refine ol_ev (ev_nenil_n rfl) rfl ?_; refine ol_nil ?_; refine cw_if_f rfl ?_; refine cw_skip ?_; refine cw_seq ?_; refine cw_region ?_; refine ol_ev (ev_move rfl) rfl ?_; refine ol_ev (ev_move rfl) rfl ?_; (refine ol_ev (ev_add rfl rfl ?_) rfl ?_; (constructor <;> omega)); refine ol_ev (ev_assign rfl) rfl ?_; refine ol_nil ?_; refine cw_seq ?_; refine cw_region ?_; refine ol_ev (ev_move rfl) rfl ?_; refine ol_ev (ev_not rfl) rfl ?_; refine ol_ev (ev_move rfl) rfl ?_; refine ol_on rfl rfl rfl ?_; refine ol_ev (ev_move rfl) rfl ?_; refine ol_on rfl rfl rfl ?_; refine ol_ev (ev_move rfl) rfl ?_; refine ol_on rfl rfl rfl ?_; refine ol_ev (ev_len_s rfl) rfl ?_; refine ol_on rfl rfl rfl ?_; refine ol_ev (ev_eq rfl rfl) rfl ?_; refine ol_ev (ev_pick_t rfl rfl) rfl ?_; refine ol_nil ?_
            rw [decide_eq_true (show ((k : Nat) : Int) + adv = ((data.length : Nat) : Int) by omega)]
            refine cw_if_t rfl ?_; refine cw_seq ?_; refine cw_region ?_; refine ol_ev (ev_move rfl) rfl ?_; (iterate 3 (refine ol_ev (ev_assign rfl) rfl ?_)); refine ol_nil ?_; refine cw_ret ?_
            refine ⟨_, res3 rfl rfl rfl rfl, ?_⟩
            exact ⟨_, _, rfl, rfl, ⟨R', List.Perm.refl _, hI'⟩, hout, rfl⟩
          · rw [if_neg (fun h => hall h.2)]
            refine cw_skip ?_; refine cw_seq ?_; refine cw_seq ?_; refine cw_region ?_; refine ol_ev (ev_move rfl) rfl ?_; refine ol_ev (ev_nenil_n rfl) rfl ?_; refine ol_nil ?_; refine cw_if_f rfl ?_; refine cw_skip ?_; refine cw_seq ?_; refine cw_region ?_; refine ol_ev (ev_move rfl) rfl ?_; refine ol_ev (ev_move rfl) rfl ?_; (refine ol_ev (ev_add rfl rfl ?_) rfl ?_; (constructor <;> omega)); refine ol_ev (ev_assign rfl) rfl ?_; refine ol_nil ?_; refine cw_seq ?_; refine cw_region ?_; refine ol_ev (ev_move rfl) rfl ?_; refine ol_ev (ev_not rfl) rfl ?_; refine ol_ev (ev_move rfl) rfl ?_; refine ol_on rfl rfl rfl ?_; refine ol_ev (ev_move rfl) rfl ?_; refine ol_on rfl rfl rfl ?_; refine ol_ev (ev_move rfl) rfl ?_; refine ol_on rfl rfl rfl ?_; refine ol_ev (ev_len_s rfl) rfl ?_; refine ol_on rfl rfl rfl ?_; refine ol_ev (ev_eq rfl rfl) rfl ?_; refine ol_ev (ev_pick_t rfl rfl) rfl ?_; refine ol_nil ?_
            rw [decide_eq_false (show ¬ ((k : Nat) : Int) + adv = ((data.length : Nat) : Int) by omega)]
            refine cw_if_f rfl ?_; refine cw_skip ?_
            refine ⟨(k + adv.toNat, fu, st, R'), ⟨by show k + adv.toNat ≤ data.length; omega, ?_, ?_, ?_, hI', fun kk o hm he => hkk kk o (hkeep kk o hm he) he⟩, ⟨rfl, rfl, rfl, rfl, ?_, trivial⟩, rfl, Nat.lt_succ_self fu⟩
            · show (data.drop (k + adv.toNat)).length < fu
              rw [List.length_drop]; omega
            · refine .inl fun h0 => ?_
              have := congrArg List.length h0
              rw [List.length_drop] at this
              simp at this
              omega
            · show addA k (addA adv.toNat (dropF x step fu st ((data.drop k).drop adv.toNat) false)) = addA (k + adv.toNat) (dropF x step fu st (data.drop (k + adv.toNat)) false)
              rw [← List.drop_drop, addA_add]
            · show some (Value.int .i64 (((k : Nat) : Int) + adv)) = some (Value.int .i64 ((k + adv.toNat : Nat) : Int))
              rw [show (((k + adv.toNat : Nat)) : Int) = ((k : Nat) : Int) + adv by omega]
        | true =>
          rw [if_neg (fun h => by cases h.1)]
          refine cw_skip ?_; refine cw_seq ?_; refine cw_seq ?_; refine cw_region ?_; refine ol_ev (ev_move rfl) rfl ?_; refine ol_ev (ev_nenil_n rfl) rfl ?_; refine ol_nil ?_; refine cw_if_f rfl ?_; refine cw_skip ?_; refine cw_seq ?_; refine cw_region ?_; refine ol_ev (ev_move rfl) rfl ?_; refine ol_ev (ev_move rfl) rfl ?_; (refine ol_ev (ev_add rfl rfl ?_) rfl ?_; (constructor <;> omega)); refine ol_ev (ev_assign rfl) rfl ?_; refine ol_nil ?_; refine cw_seq ?_; refine cw_region ?_; refine ol_ev (ev_move rfl) rfl ?_; refine ol_ev (ev_not rfl) rfl ?_; refine ol_ev (ev_move rfl) rfl ?_; (iterate 4 (refine ol_off rfl rfl rfl rfl rfl ?_)); refine ol_ev (ev_pick_f rfl rfl) rfl ?_; refine ol_nil ?_; refine cw_if_f rfl ?_; refine cw_skip ?_
          refine ⟨(k + adv.toNat, fu, st, R'), ⟨by show k + adv.toNat ≤ data.length; omega, ?_, ?_, ?_, hI', fun kk o hm he => hkk kk o (hkeep kk o hm he) he⟩, ⟨rfl, rfl, rfl, rfl, ?_, trivial⟩, rfl, Nat.lt_succ_self fu⟩
          · show (data.drop (k + adv.toNat)).length < fu
            rw [List.length_drop]; omega
          · exact .inr rfl
          · show addA k (addA adv.toNat (dropF x step fu st ((data.drop k).drop adv.toNat) true)) = addA (k + adv.toNat) (dropF x step fu st (data.drop (k + adv.toNat)) true)
            rw [← List.drop_drop, addA_add]
          · show some (Value.int .i64 (((k : Nat) : Int) + adv)) = some (Value.int .i64 ((k + adv.toNat : Nat) : Int))
            rw [show (((k + adv.toNat : Nat)) : Int) = ((k : Nat) : Int) + adv by omega]
end
end Go.HE
