/- Split functions around split functions, by contracts. Conditions: the errors are as start-up lays them; the inner split function meets its contract. -/
import Derived.Test.YtkaomlklllinlaaDoorLayP
import Derived.Test.YtkaomlklllinlaaDoorTexts
set_option maxRecDepth 100000
set_option maxHeartbeats 4000000
namespace Go.HE
open Go.RowKit Go.Proofs

theorem TokO.sub {H K : Heap} {tv : Value} {t : Option (List UInt8)} (h : TokO H tv t) (hs : ∀ p ∈ H, p ∈ K) : TokO K tv t := by
  cases t with
  | none => exact h
  | some t =>
    obtain ⟨b, off, c, o, h1, h2, h3, h4⟩ := h
    exact ⟨b, off, c, o, h1, hs _ h2, h3, h4⟩
theorem up2 {x a b : Nat × HO} {R : Heap} : (x :: a :: b :: R).Perm (a :: b :: x :: R) := (List.Perm.swap a x _).trans ((List.Perm.swap b x R).cons a)
theorem up3 {x a b c : Nat × HO} {R : Heap} : (x :: a :: b :: c :: R).Perm (a :: b :: c :: x :: R) := (List.Perm.swap a x _).trans (up2.cons a)
theorem fr2 {x a b : Nat × HO} {R : Heap} : (x :: a :: b :: R).Perm ((x :: R) ++ [a, b]) := (List.perm_append_comm (l₁ := [a, b]) (l₂ := R)).cons x
theorem fr3 {x a b c : Nat × HO} {R : Heap} : (x :: a :: b :: c :: R).Perm ((x :: R) ++ [a, b, c]) := (List.perm_append_comm (l₁ := [a, b, c]) (l₂ := R)).cons x
theorem keep2 {T R R' : Heap} {a b a' b' : Nat × HO} (hp : T.Perm (a :: b :: R)) (ha : a.2.elem ≠ 5) (hb : b.2.elem ≠ 5) (hR : ∀ k o, (k, o) ∈ R → o.elem = 5 → (k, o) ∈ R') : ∀ k o, (k, o) ∈ T → o.elem = 5 → (k, o) ∈ a' :: b' :: R' := by
  intro k o hm he
  have := hp.subset hm
  rcases List.mem_cons.1 this with h | h
  · subst h; exact absurd he ha
  rcases List.mem_cons.1 h with h | h
  · subst h; exact absurd he hb
  exact List.mem_cons_of_mem _ (List.mem_cons_of_mem _ (hR k o h he))
theorem keep3 {T R R' : Heap} {a b c a' b' c' : Nat × HO} (hp : T.Perm (a :: b :: c :: R)) (ha : a.2.elem ≠ 5) (hb : b.2.elem ≠ 5) (hc : c.2.elem ≠ 5) (hR : ∀ k o, (k, o) ∈ R → o.elem = 5 → (k, o) ∈ R') : ∀ k o, (k, o) ∈ T → o.elem = 5 → (k, o) ∈ a' :: b' :: c' :: R' := by
  intro k o hm he
  have := hp.subset hm
  rcases List.mem_cons.1 this with h | h
  · subst h; exact absurd he ha
  rcases List.mem_cons.1 h with h | h
  · subst h; exact absurd he hb
  rcases List.mem_cons.1 h with h | h
  · subst h; exact absurd he hc
  exact List.mem_cons_of_mem _ (List.mem_cons_of_mem _ (List.mem_cons_of_mem _ (hR k o h he)))
theorem tok2 {x a b : Nat × HO} {R : Heap} {tv : Value} {t : Option (List UInt8)} (h : TokO (x :: R) tv t) : TokO (x :: a :: b :: R) tv t := h.sub fun p hp => by
  rcases List.mem_cons.1 hp with h | h
  · rw [h]; exact List.mem_cons_self
  · exact List.mem_cons_of_mem _ (List.mem_cons_of_mem _ (List.mem_cons_of_mem _ h))
theorem tok3 {x a b c : Nat × HO} {R : Heap} {tv : Value} {t : Option (List UInt8)} (h : TokO (x :: R) tv t) : TokO (x :: a :: b :: c :: R) tv t := h.sub fun p hp => by
  rcases List.mem_cons.1 hp with h | h
  · rw [h]; exact List.mem_cons_self
  · exact List.mem_cons_of_mem _ (List.mem_cons_of_mem _ (List.mem_cons_of_mem _ (List.mem_cons_of_mem _ h)))

section
variable {W : World} {E : Nat → Addr} {σ : Type} {fid : Nat} {cap : List Value} {step : σ → List UInt8 → Bool → Ans σ} {I : σ → Heap → Prop}

/-- The cell of a closure that holds its inner split function. -/
def innO (fid : Nat) (cap : List Value) : HO := ⟨[.func (.func fid) #[] cap.toArray], 65, (0, 0)⟩

theorem take_ok (hE : Errs W E) (hsp : SplitOk W E fid cap step I) (hso : StepOk step) (nb ib : Nat) : SplitOk W E 73 [.pointer (some ⟨nb, 0, none⟩), .pointer (some ⟨ib, 0, none⟩)] (takeStep step)
    (fun s T => s.2 ≤ 9223372036854775807 ∧ ∃ R, T.Perm ((nb, (⟨[.int .i64 s.2], 3, (0, 0)⟩ : HO)) :: (ib, innO fid cap) :: R) ∧ I s.1 R) := by
  haveI hfn : TFn Tryd.prog fid := ⟨hsp.body⟩
  refine ⟨by kernel_rfl, fun s T T' hp ⟨h1, R, h2, h3⟩ => ⟨h1, R, hp.symm.trans h2, h3⟩, fun s T x ⟨h1, R, h2, h3⟩ => ⟨h1, x :: R, (h2.cons x).trans up2, hsp.more _ _ _ h3⟩, fun s d e c h => ?_, ?_⟩
  · rcases (take_step hso).err s d e c h with rfl | rfl <;> omega
  rintro ⟨s, n⟩ T bb off dcap cells data atEOF ⟨hn, R, hp, hI⟩ hne hdat hle hcap hbig
  simp only at hn hp hI
  refine ct_of_cw (vs := [_, _, _, _]) Tryd.func73 rfl rfl fun w1 => ?_
  refine CW.perm (hp.cons _) ?_
  refine cw_seq ?_; refine cw_region ?_; (iterate 3 (refine ol_ev (ev_assign rfl) rfl ?_)); refine ol_nil ?_; refine cw_seq ?_; refine cw_seq ?_; refine cw_region ?_; refine ol_ev (ev_load rfl m1 rfl) rfl ?_; refine ol_ev (ev_le rfl rfl) rfl ?_; refine ol_nil ?_
  refine cw_ifd rfl (fun h0 => ?_) (fun h0 => ?_)
  · have hst : takeStep step (s, n) data atEOF = ⟨0, none, some 6, (s, n)⟩ := by unfold takeStep; rw [if_pos h0]
    refine cw_seq ?_
    refine cw_still mixed (by kernel_rfl) ?_
    refine sl_ev (ev_loadW rfl hE.c6) rfl ?_
    (iterate 3 (refine sl_ev (ev_assign rfl) rfl ?_)); refine sl_nil ?_
    refine cw_ret ?_
    refine ⟨_, res3 rfl rfl rfl rfl, ?_⟩
    rw [hst]
    exact ⟨_, _, rfl, rfl, ⟨hn, R, List.Perm.refl _, hI⟩, fun _ _ h _ => hp.subset h, rfl⟩
  · refine cw_skip ?_; refine cw_seq ?_; refine cw_region ?_; refine ol_ev (ev_load rfl m2 rfl) rfl ?_; refine ol_ev (ev_move rfl) rfl ?_; refine ol_ev (ev_move rfl) rfl ?_
    refine ol_call2 (G := (bb, ⟨cells, 5, (0, 0)⟩) :: R) (R := [(nb, (⟨[.int .i64 n], 3, (0, 0)⟩ : HO)), (ib, innO fid cap)]) (cap := cap) rfl rfl rfl rfl (hsp.call s R bb off dcap cells data atEOF hI hne hdat hle hcap hbig) fr2 ?_
    rintro v G' ⟨tv, R', rfl, rfl, hI', hk, htok⟩
    refine OL.perm (K := (bb, ⟨cells, 5, (0, 0)⟩) :: (nb, (⟨[.int .i64 n], 3, (0, 0)⟩ : HO)) :: (ib, innO fid cap) :: R') fr2.symm ?_
    have hst : takeStep step (s, n) data atEOF = if (step s data atEOF).tok = none ∨ (step s data atEOF).err ≠ none then ⟨(step s data atEOF).adv, (step s data atEOF).tok, (step s data atEOF).err, ((step s data atEOF).st, n)⟩
      else ⟨(step s data atEOF).adv, (step s data atEOF).tok, if n = 1 then some 6 else none, ((step s data atEOF).st, n - 1)⟩ := by unfold takeStep; rw [if_neg h0]
    rw [hst]
    clear hst
    generalize step s data atEOF = a at hI' htok
    obtain ⟨adv, tok, err, st⟩ := a
    simp only at hI' htok ⊢
    cases tok with
    | none =>
      obtain rfl : tv = .slice none 0 0 := htok
      rw [if_pos (.inl rfl)]
      refine ol_ev (ev_move rfl) rfl ?_; (iterate 3 (refine ol_ev (ev_extract rfl rfl) rfl ?_)); (iterate 3 (refine ol_ev (ev_assign rfl) rfl ?_)); refine ol_nil ?_; refine cw_seq ?_; refine cw_seq ?_; refine cw_region ?_; refine ol_ev (ev_move rfl) rfl ?_; refine ol_ev (ev_eqnil_s rfl) rfl ?_; refine ol_ev (ev_move rfl) rfl ?_; refine ol_off rfl rfl rfl rfl rfl ?_; refine ol_off rfl rfl rfl rfl rfl ?_; refine ol_ev (ev_pick_t rfl rfl) rfl ?_; refine ol_nil ?_; refine cw_if_t rfl ?_; refine cw_seq ?_; refine cw_region ?_; (iterate 3 (refine ol_ev (ev_move rfl) rfl ?_)); (iterate 3 (refine ol_ev (ev_assign rfl) rfl ?_)); refine ol_nil ?_; refine cw_ret ?_
      refine ⟨_, res3 rfl rfl rfl rfl, ?_⟩
      exact ⟨_, _, rfl, rfl, ⟨hn, R', List.Perm.refl _, hI'⟩, keep2 hp (by simp) (by simp [innO]) hk, rfl⟩
    | some t =>
      have htok2 : TokO ((bb, (⟨cells, 5, (0, 0)⟩ : HO)) :: R') tv (some t) := htok
      obtain ⟨tb, toff, tcap, to, rfl, _⟩ := htok
      cases err with
      | some c =>
        rw [if_pos (.inr (by simp))]
        refine ol_ev (ev_move rfl) rfl ?_; (iterate 3 (refine ol_ev (ev_extract rfl rfl) rfl ?_)); (iterate 3 (refine ol_ev (ev_assign rfl) rfl ?_)); refine ol_nil ?_; refine cw_seq ?_; refine cw_seq ?_; refine cw_region ?_; refine ol_ev (ev_move rfl) rfl ?_; refine ol_ev (ev_eqnil_s rfl) rfl ?_; refine ol_ev (ev_move rfl) rfl ?_; refine ol_on rfl rfl rfl ?_; refine ol_ev (ev_move rfl) rfl ?_; refine ol_on rfl rfl rfl ?_; refine ol_ev (ev_nenil_i rfl) rfl ?_; refine ol_ev (ev_pick_f rfl rfl) rfl ?_; refine ol_nil ?_; refine cw_if_t rfl ?_; refine cw_seq ?_; refine cw_region ?_; (iterate 3 (refine ol_ev (ev_move rfl) rfl ?_)); (iterate 3 (refine ol_ev (ev_assign rfl) rfl ?_)); refine ol_nil ?_; refine cw_ret ?_
        refine ⟨_, res3 rfl rfl rfl rfl, ?_⟩
        exact ⟨_, _, rfl, rfl, ⟨hn, R', List.Perm.refl _, hI'⟩, keep2 hp (by simp) (by simp [innO]) hk, tok2 htok2⟩
      | none =>
        rw [if_neg (by simp)]
        refine ol_ev (ev_move rfl) rfl ?_; (iterate 3 (refine ol_ev (ev_extract rfl rfl) rfl ?_)); (iterate 3 (refine ol_ev (ev_assign rfl) rfl ?_)); refine ol_nil ?_; refine cw_seq ?_; refine cw_seq ?_; refine cw_region ?_; refine ol_ev (ev_move rfl) rfl ?_; refine ol_ev (ev_eqnil_s rfl) rfl ?_; refine ol_ev (ev_move rfl) rfl ?_; refine ol_on rfl rfl rfl ?_; refine ol_ev (ev_move rfl) rfl ?_; refine ol_on rfl rfl rfl ?_; refine ol_ev (ev_nenil_n rfl) rfl ?_; refine ol_ev (ev_pick_f rfl rfl) rfl ?_; refine ol_nil ?_; refine cw_if_f rfl ?_; refine cw_skip ?_; refine cw_seq ?_; refine cw_seq ?_; refine cw_region ?_; refine ol_ev (ev_load rfl m1 rfl) rfl ?_; (refine ol_ev (ev_sub rfl rfl ?_) rfl ?_; (constructor <;> omega)); refine ol_store rfl rfl rfl u1 rfl rfl ?_; refine ol_nil ?_; refine cw_seq ?_; refine cw_region ?_; refine ol_ev (ev_load rfl m1 rfl) rfl ?_; refine ol_ev (ev_eq rfl rfl) rfl ?_; refine ol_nil ?_
        refine cw_ifd rfl (fun h1 => ?_) (fun h1 => ?_)
        · have hn1 : n = 1 := by omega
          rw [if_pos hn1]
          refine cw_region ?_
          refine ol_ev (ev_loadW rfl hE.c6) rfl ?_
          refine ol_ev (ev_assign rfl) rfl ?_; refine ol_nil ?_; refine cw_seq ?_; refine cw_region ?_; (iterate 3 (refine ol_ev (ev_move rfl) rfl ?_)); (iterate 3 (refine ol_ev (ev_assign rfl) rfl ?_)); refine ol_nil ?_; refine cw_ret ?_
          refine ⟨_, res3 rfl rfl rfl rfl, ?_⟩
          exact ⟨_, _, rfl, rfl, ⟨by show n - 1 ≤ _; omega, R', List.Perm.refl _, hI'⟩, keep2 hp (by simp) (by simp [innO]) hk, tok2 htok2⟩
        · have hn1 : ¬ n = 1 := by omega
          rw [if_neg hn1]
          refine cw_skip ?_; refine cw_seq ?_; refine cw_region ?_; (iterate 3 (refine ol_ev (ev_move rfl) rfl ?_)); (iterate 3 (refine ol_ev (ev_assign rfl) rfl ?_)); refine ol_nil ?_; refine cw_ret ?_
          refine ⟨_, res3 rfl rfl rfl rfl, ?_⟩
          exact ⟨_, _, rfl, rfl, ⟨by show n - 1 ≤ _; omega, R', List.Perm.refl _, hI'⟩, keep2 hp (by simp) (by simp [innO]) hk, tok2 htok2⟩

theorem takeF_ct (n : Int) : Ct Tryd.prog W 53 #[.func (.func fid) #[] cap.toArray, .int .i64 n] [] (fun v H' => ∃ nb ib, v = .func (.func 73) #[] [.pointer (some ⟨nb, 0, none⟩), .pointer (some ⟨ib, 0, none⟩)].toArray ∧ H' = [(nb, ⟨[.int .i64 n], 3, (0, 0)⟩), (ib, innO fid cap)]) := by
  refine ct_of_cw (vs := [_, _]) Tryd.func53 rfl rfl fun w1 => ?_
  refine cw_seq ?_; refine cw_region ?_
  refine ol_box rfl rfl fun ib => ?_
  refine ol_box rfl rfl fun nb => ?_
  refine ol_ev (ev_assign rfl) rfl ?_; refine ol_nil ?_; refine cw_seq ?_; refine cw_region ?_; refine ol_ev (ev_mkfunc2 rfl rfl) rfl ?_; refine ol_ev (ev_assign rfl) rfl ?_; refine ol_nil ?_; refine cw_ret ?_
  exact ⟨_, res1 rfl rfl, nb, ib, rfl, rfl⟩

theorem meet_ok (hE : Errs W E) (hsp : SplitOk W E fid cap step I) (hso : StepOk step) (ib xb fb : Nat) (x : List UInt8) (fails : Bool) : SplitOk W E 74 [.pointer (some ⟨ib, 0, none⟩), .pointer (some ⟨xb, 0, none⟩), .pointer (some ⟨fb, 0, none⟩)] (meetStep x fails step)
    (fun s T => ∃ R, T.Perm ((ib, innO fid cap) :: (xb, (⟨[str x], 9, (0, 0)⟩ : HO)) :: (fb, (⟨[.bool fails], 4, (0, 0)⟩ : HO)) :: R) ∧ I s R) := by
  haveI hfn : TFn Tryd.prog fid := ⟨hsp.body⟩
  refine ⟨by kernel_rfl, fun s T T' hp ⟨R, h2, h3⟩ => ⟨R, hp.symm.trans h2, h3⟩, fun s T x ⟨R, h2, h3⟩ => ⟨x :: R, (h2.cons x).trans up3, hsp.more _ _ _ h3⟩, fun s d e c h => ?_, ?_⟩
  · rcases (meet_step hso).err s d e c h with rfl | rfl <;> omega
  rintro s T bb off dcap cells data atEOF ⟨R, hp, hI⟩ hne hdat hle hcap hbig
  refine ct_of_cw (vs := [_, _, _, _, _]) Tryd.func74 rfl rfl fun w1 => ?_
  refine CW.perm (hp.cons _) ?_
  refine cw_seq ?_; refine cw_region ?_; (iterate 3 (refine ol_ev (ev_assign rfl) rfl ?_)); refine ol_nil ?_; refine cw_seq ?_; refine cw_region ?_; refine ol_ev (ev_load rfl m1 rfl) rfl ?_; refine ol_ev (ev_move rfl) rfl ?_; refine ol_ev (ev_move rfl) rfl ?_
  refine ol_call2 (G := (bb, ⟨cells, 5, (0, 0)⟩) :: R) (R := [(ib, innO fid cap), (xb, (⟨[str x], 9, (0, 0)⟩ : HO)), (fb, (⟨[.bool fails], 4, (0, 0)⟩ : HO))]) (cap := cap) rfl rfl rfl rfl (hsp.call s R bb off dcap cells data atEOF hI hne hdat hle hcap hbig) fr3 ?_
  rintro v G' ⟨tv, R', rfl, rfl, hI', hk, htok⟩
  refine OL.perm (K := (bb, ⟨cells, 5, (0, 0)⟩) :: (ib, innO fid cap) :: (xb, (⟨[str x], 9, (0, 0)⟩ : HO)) :: (fb, (⟨[.bool fails], 4, (0, 0)⟩ : HO)) :: R') fr3.symm ?_
  unfold meetStep
  generalize step s data atEOF = a at hI' htok
  obtain ⟨adv, tok, err, st⟩ := a
  simp only at hI' htok ⊢
  have hkk : ∀ k o, (k, o) ∈ T → o.elem = 5 → (k, o) ∈ (ib, innO fid cap) :: (xb, (⟨[str x], 9, (0, 0)⟩ : HO)) :: (fb, (⟨[.bool fails], 4, (0, 0)⟩ : HO)) :: R' := keep3 hp (by simp [innO]) (by simp) (by simp) hk
  cases tok with
  | none =>
    obtain rfl : tv = .slice none 0 0 := htok
    rw [if_neg (by simp)]
    refine ol_ev (ev_move rfl) rfl ?_; (iterate 3 (refine ol_ev (ev_extract rfl rfl) rfl ?_)); (iterate 3 (refine ol_ev (ev_assign rfl) rfl ?_)); refine ol_nil ?_; refine cw_seq ?_; refine cw_block ?_; refine cw_seq ?_; refine cw_region ?_; refine ol_ev (ev_move rfl) rfl ?_; refine ol_ev (ev_eqnil_s rfl) rfl ?_; refine ol_ev (ev_move rfl) rfl ?_; (iterate 4 (refine ol_off rfl rfl rfl rfl rfl ?_)); refine ol_ev (ev_pick_t rfl rfl) rfl ?_; refine ol_ev (ev_assign rfl) rfl ?_; refine ol_nil ?_; refine cw_if_t rfl ?_; refine cw_seq ?_; refine cw_region ?_; (iterate 3 (refine ol_ev (ev_move rfl) rfl ?_)); (iterate 3 (refine ol_ev (ev_assign rfl) rfl ?_)); refine ol_nil ?_; refine cw_ret ?_
    refine ⟨_, res3 rfl rfl rfl rfl, ?_⟩
    exact ⟨_, _, rfl, rfl, ⟨R', List.Perm.refl _, hI'⟩, hkk, rfl⟩
  | some t =>
    have htok2 : TokO ((bb, (⟨cells, 5, (0, 0)⟩ : HO)) :: (ib, innO fid cap) :: (xb, (⟨[str x], 9, (0, 0)⟩ : HO)) :: (fb, (⟨[.bool fails], 4, (0, 0)⟩ : HO)) :: R') tv (some t) := tok3 htok
    obtain ⟨tb, toff, tcap, to, rfl, ht1, ht2, ht3⟩ := htok2
    refine ol_ev (ev_move rfl) rfl ?_; (iterate 3 (refine ol_ev (ev_extract rfl rfl) rfl ?_)); (iterate 3 (refine ol_ev (ev_assign rfl) rfl ?_)); refine ol_nil ?_; refine cw_seq ?_; refine cw_block ?_; refine cw_seq ?_; refine cw_region ?_; refine ol_ev (ev_move rfl) rfl ?_; refine ol_ev (ev_eqnil_s rfl) rfl ?_; refine ol_ev (ev_move rfl) rfl ?_; refine ol_on rfl rfl rfl ?_; refine ol_ev (ev_move rfl) rfl ?_; refine ol_on rfl rfl rfl ?_
    refine ol_ev (ev_str_bytes rfl ht1 ht2) rfl ?_
    refine ol_on rfl rfl rfl ?_; refine ol_ev (ev_load rfl m2 rfl) rfl ?_; refine ol_on rfl rfl rfl ?_; refine ol_ev (ev_ne_str rfl rfl) rfl ?_; refine ol_ev (ev_pick_f rfl rfl) rfl ?_; refine ol_ev (ev_assign rfl) rfl ?_; refine ol_nil ?_
    refine cw_ifd rfl (fun h1 => ?_) (fun h1 => ?_)
    · rw [if_neg (by simpa using h1)]
      refine cw_seq ?_; refine cw_region ?_; (iterate 3 (refine ol_ev (ev_move rfl) rfl ?_)); (iterate 3 (refine ol_ev (ev_assign rfl) rfl ?_)); refine ol_nil ?_; refine cw_ret ?_
      refine ⟨_, res3 rfl rfl rfl rfl, ?_⟩
      exact ⟨_, _, rfl, rfl, ⟨R', List.Perm.refl _, hI'⟩, hkk, tb, toff, tcap, to, rfl, ht1, ht2, ht3⟩
    · rw [if_pos (by simpa using h1)]
      cases fails with
      | true =>
        rw [if_pos rfl]
        refine cw_seq ?_; refine cw_region ?_; refine ol_ev (ev_load rfl m3 rfl) rfl ?_; refine ol_ev (ev_assign rfl) rfl ?_; refine ol_nil ?_; refine cw_if_t rfl ?_; refine cw_seq ?_
        refine cw_still mixed (by kernel_rfl) ?_
        refine sl_ev (ev_loadW rfl hE.c7) rfl ?_
        (iterate 3 (refine sl_ev (ev_assign rfl) rfl ?_)); refine sl_nil ?_
        refine cw_ret ?_
        refine ⟨_, res3 rfl rfl rfl rfl, ?_⟩
        exact ⟨_, _, rfl, rfl, ⟨R', List.Perm.refl _, hI'⟩, hkk, rfl⟩
      | false =>
        rw [if_neg (by simp)]
        refine cw_seq ?_; refine cw_region ?_; refine ol_ev (ev_load rfl m3 rfl) rfl ?_; refine ol_ev (ev_assign rfl) rfl ?_; refine ol_nil ?_; refine cw_if_f rfl ?_; refine cw_skip ?_; refine cw_seq ?_
        refine cw_still mixed (by kernel_rfl) ?_
        refine sl_ev (ev_move rfl) rfl ?_
        refine sl_ev (ev_loadW rfl hE.c6) rfl ?_
        (iterate 3 (refine sl_ev (ev_assign rfl) rfl ?_)); refine sl_nil ?_
        refine cw_ret ?_
        refine ⟨_, res3 rfl rfl rfl rfl, ?_⟩
        exact ⟨_, _, rfl, rfl, ⟨R', List.Perm.refl _, hI'⟩, hkk, rfl⟩

theorem meetF_ct (x : List UInt8) (fails : Bool) : Ct Tryd.prog W 54 #[.func (.func fid) #[] cap.toArray, str x, .bool fails] [] (fun v H' => ∃ ib xb fb, v = .func (.func 74) #[] [.pointer (some ⟨ib, 0, none⟩), .pointer (some ⟨xb, 0, none⟩), .pointer (some ⟨fb, 0, none⟩)].toArray ∧ H' = [(fb, ⟨[.bool fails], 4, (0, 0)⟩), (xb, ⟨[str x], 9, (0, 0)⟩), (ib, innO fid cap)]) := by
  refine ct_of_cw (vs := [_, _, _]) Tryd.func54 rfl rfl fun w1 => ?_
  refine cw_seq ?_; refine cw_region ?_
  refine ol_box rfl rfl fun ib => ?_
  refine ol_box rfl rfl fun xb => ?_
  refine ol_box rfl rfl fun fb => ?_
  refine ol_ev (ev_assign rfl) rfl ?_; refine ol_nil ?_; refine cw_seq ?_; refine cw_region ?_; refine ol_ev (ev_mkfunc3 rfl rfl rfl) rfl ?_; refine ol_ev (ev_assign rfl) rfl ?_; refine ol_nil ?_; refine cw_ret ?_
  exact ⟨_, res1 rfl rfl, ib, xb, fb, rfl, rfl⟩

theorem ev_sub_wrap {P : Program} {C : Cx} {H : Heap} {l : Env} {ty t yt : TypeId} {x : Operand} {n : Int} (hx : ev l x = some (.int .i64 n)) (hn : inI n) : Ev P C H l (.binOp .sub t x (.const (.int .i64 1)) yt) ty (.int .i64 (down n)) :=
  ev_bin hx rfl (fun _ _ => guard_int) (fun _ _ => by
    have : IntKind.i64.wrap (n - 1) = down n := by
      unfold down
      by_cases h : n = -9223372036854775808
      · subst h; rw [if_pos rfl]; decide
      · rw [if_neg h]
        obtain ⟨h1, h2⟩ := hn
        exact wrap_i64 ⟨by omega, by omega⟩
    simp [binOp, Op.intArith, this])
theorem down_in {n : Int} (h : inI n) : inI (down n) := by
  obtain ⟨h1, h2⟩ := h
  unfold down
  split <;> constructor <;> omega

theorem stray_ok (hsp : SplitOk W E fid cap step I) (hso : StepOk step) (ib nb fb : Nat) (far : Bool) : SplitOk W E 78 [.pointer (some ⟨ib, 0, none⟩), .pointer (some ⟨nb, 0, none⟩), .pointer (some ⟨fb, 0, none⟩)] (strayStep far step)
    (fun s T => inI s.2 ∧ ∃ R, T.Perm ((ib, innO fid cap) :: (nb, (⟨[.int .i64 s.2], 3, (0, 0)⟩ : HO)) :: (fb, (⟨[.bool far], 4, (0, 0)⟩ : HO)) :: R) ∧ I s.1 R) := by
  haveI hfn : TFn Tryd.prog fid := ⟨hsp.body⟩
  refine ⟨by kernel_rfl, fun s T T' hp ⟨h1, R, h2, h3⟩ => ⟨h1, R, hp.symm.trans h2, h3⟩, fun s T x ⟨h1, R, h2, h3⟩ => ⟨h1, x :: R, (h2.cons x).trans up3, hsp.more _ _ _ h3⟩, fun s d e c h => ?_, ?_⟩
  · rcases (stray_step hso).err s d e c h with rfl | rfl <;> omega
  rintro ⟨s, n⟩ T bb off dcap cells data atEOF ⟨hn, R, hp, hI⟩ hne hdat hle hcap hbig
  simp only at hn hp hI
  refine ct_of_cw (vs := [_, _, _, _, _]) Tryd.func78 rfl rfl fun w1 => ?_
  refine CW.perm (hp.cons _) ?_
  refine cw_seq ?_; refine cw_region ?_; (iterate 3 (refine ol_ev (ev_assign rfl) rfl ?_)); refine ol_nil ?_; refine cw_seq ?_; refine cw_region ?_; refine ol_ev (ev_load rfl m1 rfl) rfl ?_; refine ol_ev (ev_move rfl) rfl ?_; refine ol_ev (ev_move rfl) rfl ?_
  refine ol_call2 (G := (bb, ⟨cells, 5, (0, 0)⟩) :: R) (R := [(ib, innO fid cap), (nb, (⟨[.int .i64 n], 3, (0, 0)⟩ : HO)), (fb, (⟨[.bool far], 4, (0, 0)⟩ : HO))]) (cap := cap) rfl rfl rfl rfl (hsp.call s R bb off dcap cells data atEOF hI hne hdat hle hcap hbig) fr3 ?_
  rintro v G' ⟨tv, R', rfl, rfl, hI', hk, htok⟩
  refine OL.perm (K := (bb, ⟨cells, 5, (0, 0)⟩) :: (ib, innO fid cap) :: (nb, (⟨[.int .i64 n], 3, (0, 0)⟩ : HO)) :: (fb, (⟨[.bool far], 4, (0, 0)⟩ : HO)) :: R') fr3.symm ?_
  unfold strayStep
  simp only
  generalize step s data atEOF = a at hI' htok
  obtain ⟨adv, tok, err, st⟩ := a
  simp only at hI' htok ⊢
  have hkk : ∀ m k o, (k, o) ∈ T → o.elem = 5 → (k, o) ∈ (ib, innO fid cap) :: (nb, (⟨[.int .i64 m], 3, (0, 0)⟩ : HO)) :: (fb, (⟨[.bool far], 4, (0, 0)⟩ : HO)) :: R' := fun m => keep3 hp (by simp [innO]) (by simp) (by simp) hk
  cases tok with
  | none =>
    obtain rfl : tv = .slice none 0 0 := htok
    rw [if_pos rfl]
    refine ol_ev (ev_move rfl) rfl ?_; (iterate 3 (refine ol_ev (ev_extract rfl rfl) rfl ?_)); (iterate 3 (refine ol_ev (ev_assign rfl) rfl ?_)); refine ol_nil ?_; refine cw_seq ?_; refine cw_seq ?_; refine cw_region ?_; refine ol_ev (ev_move rfl) rfl ?_; refine ol_ev (ev_eqnil_s rfl) rfl ?_; refine ol_nil ?_; refine cw_if_t rfl ?_; refine cw_seq ?_; refine cw_region ?_; (iterate 3 (refine ol_ev (ev_move rfl) rfl ?_)); (iterate 3 (refine ol_ev (ev_assign rfl) rfl ?_)); refine ol_nil ?_; refine cw_ret ?_
    refine ⟨_, res3 rfl rfl rfl rfl, ?_⟩
    exact ⟨_, _, rfl, rfl, ⟨hn, R', List.Perm.refl _, hI'⟩, hkk n, rfl⟩
  | some t =>
    have htok2 : TokO ((bb, (⟨cells, 5, (0, 0)⟩ : HO)) :: R') tv (some t) := htok
    obtain ⟨tb, toff, tcap, to, rfl, _⟩ := htok
    rw [if_neg (by simp)]
    refine ol_ev (ev_move rfl) rfl ?_; (iterate 3 (refine ol_ev (ev_extract rfl rfl) rfl ?_)); (iterate 3 (refine ol_ev (ev_assign rfl) rfl ?_)); refine ol_nil ?_; refine cw_seq ?_; refine cw_seq ?_; refine cw_region ?_; refine ol_ev (ev_move rfl) rfl ?_; refine ol_ev (ev_eqnil_s rfl) rfl ?_; refine ol_nil ?_; refine cw_if_f rfl ?_; refine cw_skip ?_; refine cw_seq ?_; refine cw_seq ?_; refine cw_region ?_; refine ol_ev (ev_load rfl m2 rfl) rfl ?_
    refine ol_ev (ev_sub_wrap rfl hn) rfl ?_
    refine ol_store rfl rfl rfl u2 rfl rfl ?_; refine ol_nil ?_; refine cw_seq ?_; refine cw_region ?_; refine ol_ev (ev_load rfl m2 rfl) rfl ?_; refine ol_ev (ev_ge rfl rfl) rfl ?_; refine ol_nil ?_
    refine cw_ifd rfl (fun h1 => ?_) (fun h1 => ?_)
    · rw [if_pos h1]
      refine cw_seq ?_; refine cw_region ?_; (iterate 3 (refine ol_ev (ev_move rfl) rfl ?_)); (iterate 3 (refine ol_ev (ev_assign rfl) rfl ?_)); refine ol_nil ?_; refine cw_ret ?_
      refine ⟨_, res3 rfl rfl rfl rfl, ?_⟩
      exact ⟨_, _, rfl, rfl, ⟨down_in hn, R', List.Perm.refl _, hI'⟩, hkk _, tok3 htok2⟩
    · rw [if_neg h1]
      cases far with
      | true =>
        rw [if_pos rfl]
        refine cw_skip ?_; refine cw_seq ?_; refine cw_seq ?_; refine cw_region ?_; refine ol_ev (ev_load rfl m3 rfl) rfl ?_; refine ol_nil ?_; refine cw_if_t rfl ?_; refine cw_seq ?_; refine cw_region ?_; refine ol_ev (ev_move rfl) rfl ?_; refine ol_ev (ev_len_s rfl) rfl ?_; (refine ol_ev (ev_add rfl rfl ?_) rfl ?_; (constructor <;> omega)); (iterate 3 (refine ol_ev (ev_assign rfl) rfl ?_)); refine ol_nil ?_; refine cw_ret ?_
        refine ⟨_, res3 rfl rfl rfl rfl, ?_⟩
        exact ⟨_, _, rfl, rfl, ⟨down_in hn, R', List.Perm.refl _, hI'⟩, hkk _, rfl⟩
      | false =>
        rw [if_neg (by simp)]
        refine cw_skip ?_; refine cw_seq ?_; refine cw_seq ?_; refine cw_region ?_; refine ol_ev (ev_load rfl m3 rfl) rfl ?_; refine ol_nil ?_; refine cw_if_f rfl ?_; refine cw_skip ?_; refine cw_seq ?_; refine cw_region ?_; (iterate 3 (refine ol_ev (ev_assign rfl) rfl ?_)); refine ol_nil ?_; refine cw_ret ?_
        refine ⟨_, res3 rfl rfl rfl rfl, ?_⟩
        exact ⟨_, _, rfl, rfl, ⟨down_in hn, R', List.Perm.refl _, hI'⟩, hkk _, rfl⟩

theorem strayF_ct (n : Int) (far : Bool) : Ct Tryd.prog W 59 #[.func (.func fid) #[] cap.toArray, .int .i64 n, .bool far] [] (fun v H' => ∃ ib nb fb, v = .func (.func 78) #[] [.pointer (some ⟨ib, 0, none⟩), .pointer (some ⟨nb, 0, none⟩), .pointer (some ⟨fb, 0, none⟩)].toArray ∧ H' = [(fb, ⟨[.bool far], 4, (0, 0)⟩), (nb, ⟨[.int .i64 n], 3, (0, 0)⟩), (ib, innO fid cap)]) := by
  refine ct_of_cw (vs := [_, _, _]) Tryd.func59 rfl rfl fun w1 => ?_
  refine cw_seq ?_; refine cw_region ?_
  refine ol_box rfl rfl fun ib => ?_
  refine ol_box rfl rfl fun nb => ?_
  refine ol_box rfl rfl fun fb => ?_
  refine ol_ev (ev_assign rfl) rfl ?_; refine ol_nil ?_; refine cw_seq ?_; refine cw_region ?_; refine ol_ev (ev_mkfunc3 rfl rfl rfl) rfl ?_; refine ol_ev (ev_assign rfl) rfl ?_; refine ol_nil ?_; refine cw_ret ?_
  exact ⟨_, res1 rfl rfl, ib, nb, fb, rfl, rfl⟩
end
end Go.HE
