/- How a scanner's calls end, said by what the split function answers on whole texts: plain mathematics of the model of the scanner. Conditions: those of the lemmas. -/
import Derived.Test.YtjalppojdomcoaaDoorTok
set_option maxRecDepth 100000
set_option maxHeartbeats 1000000
namespace Go.HE

/-- What a split function makes of all that is left: a token and what is left behind it; an error; a last token or none; nothing. -/
inductive Oc (σ : Type) where
  | tok (t : List UInt8) (s : σ) (r : List UInt8)
  | fail (c : Nat)
  | fin (t : Option (List UInt8))
  | stop

section
variable {σ : Type}
/-- The answers of 'step' on any beginning of what is left fit the outcome Q; where it asks for more, less than L bytes are pending, or the outcome is that a token is too long. -/
structure Good (step : σ → List UInt8 → Bool → Ans σ) (Q : σ → List UInt8 → Oc σ → Prop) (L : Nat) : Prop where
  pos : 0 < L
  fits : ∀ s data tl o eof, Q s (data ++ tl) o → (eof = true → tl = []) → (data ≠ [] ∨ eof = true) → data.length ≤ L →
    match (step s data eof).err with
    | some c => if c = 6 then o = .fin (step s data eof).tok else (c < 9 ∧ o = .fail c)
    | none => if (step s data eof).adv < 0 then o = .fail 3 else if (data.length : Int) < (step s data eof).adv then o = .fail 4
      else match (step s data eof).tok with
        | some t => 0 < (step s data eof).adv ∧ o = .tok t (step s data eof).st (data.drop (step s data eof).adv.toNat ++ tl)
        | none => if eof = true then o = .stop else Q (step s data eof).st (data.drop (step s data eof).adv.toNat ++ tl) o ∧ (data.length - (step s data eof).adv.toNat < L ∨ o = .fail 2)

def restOf (m : M σ) : List UInt8 := m.data ++ m.rd.text.drop m.rd.at'
/-- The error at the end of the input. -/
def endE (r : Rd) : Nat := if r.brk then 8 else 0

structure MI (L : Nat) (m : M σ) : Prop where
  err : m.err = none ∨ (m.err = some (endE m.rd) ∧ m.rd.at' = m.rd.text.length)
  fit : m.start + m.data.length ≤ m.blen
  at_ : m.rd.at' ≤ m.rd.text.length
  lim : (L : Int) = max (m.blen : Int) m.mx
  siz : m.data.length + (m.rd.text.length - m.rd.at') ≤ 1099511627776 ∨ L ≤ 140737488355328

def mu (m : M σ) : Nat := 2 * (m.rd.text.length - m.rd.at') + (if m.err = none then 1 else 0)

/-- How an end answers an outcome. -/
def OutOk (L : Nat) (rd : Rd) (e : End σ) : Oc σ → Prop
  | .tok t s r => e.b = true ∧ e.tok = some t ∧ e.dn = false ∧ e.m.s = s ∧ restOf e.m = r ∧ MI L e.m ∧ e.m.rd.brk = rd.brk ∧ e.m.rd.text = rd.text
  | .fail c => e.b = false ∧ e.dn = false ∧ ∃ x, (x = none ∨ x = some (endE rd)) ∧ e.m.err = setE x c
  | .fin t => e.b = t.isSome ∧ e.tok = t ∧ e.dn = true ∧ (e.m.err = none ∨ e.m.err = some (endE rd))
  | .stop => e.b = false ∧ e.dn = false ∧ e.m.err = some (endE rd)

theorem read_mi {L : Nat} {m : M σ} (ps : List Int) (h : MI L m) (he : m.err = none) (hr : m.start + m.data.length < m.blen) :
    MI L (readM ps m) ∧ restOf (readM ps m) = restOf m ∧ mu (readM ps m) < mu m ∧ (readM ps m).rd.brk = m.rd.brk ∧ (readM ps m).rd.text = m.rd.text := by
  obtain ⟨s, data, start, blen, mx, ⟨text, pv, tog, brk, at', k⟩, err, emp⟩ := m
  obtain ⟨h1, h2, h3, h4, h5⟩ := h
  simp only at he hr h1 h2 h3 h4 h5
  subst he
  have hle := rdN_le ⟨text, pv, tog, brk, at', k⟩ ps (blen - (start + data.length))
  have hpos : at' < text.length → 0 < rdN ⟨text, pv, tog, brk, at', k⟩ ps (blen - (start + data.length)) := fun h => rdN_pos (by omega) h
  simp only at hle
  have hlen : (List.take (rdN ⟨text, pv, tog, brk, at', k⟩ ps (blen - (start + data.length))) (List.drop at' text)).length = rdN ⟨text, pv, tog, brk, at', k⟩ ps (blen - (start + data.length)) := by
    simp; omega
  have hE : rdErr ⟨text, pv, tog, brk, at', k⟩ ps (blen - (start + data.length)) = none ∨ (rdErr ⟨text, pv, tog, brk, at', k⟩ ps (blen - (start + data.length)) = some (if brk then 8 else 0) ∧ at' + rdN ⟨text, pv, tog, brk, at', k⟩ ps (blen - (start + data.length)) = text.length) := by
    unfold rdErr
    simp only
    split
    · exact .inl rfl
    · rename_i hh
      refine .inr ⟨rfl, ?_⟩
      have : ¬ (at' + rdN ⟨text, pv, tog, brk, at', k⟩ ps (blen - (start + data.length)) < text.length) := fun h => hh (.inl h)
      omega
  have hE2 : rdErr ⟨text, pv, tog, brk, at', k⟩ ps (blen - (start + data.length)) = none → 0 < rdN ⟨text, pv, tog, brk, at', k⟩ ps (blen - (start + data.length)) := by
    intro hn
    unfold rdErr at hn
    simp only at hn
    split at hn
    · rename_i hh
      rcases hh with hh | hh
      · exact hpos (by omega)
      · exact hh.1
    · cases hn
  generalize hnn : rdN ⟨text, pv, tog, brk, at', k⟩ ps (blen - (start + data.length)) = nn at *
  generalize hee : rdErr ⟨text, pv, tog, brk, at', k⟩ ps (blen - (start + data.length)) = ee at *
  have hR : readM ps (⟨s, data, start, blen, mx, ⟨text, pv, tog, brk, at', k⟩, none, emp⟩ : M σ) =
      ⟨s, data ++ (text.drop at').take nn, start, blen, mx, ⟨text, pv, tog, brk, at' + nn, if k < ps.length then k + 1 else k⟩, ee, if ee = none then 0 else emp⟩ := by
    simp only [readM, room, rdNext, hnn, hee]
  rw [hR]
  refine ⟨⟨?_, ?_, ?_, h4, ?_⟩, ?_, ?_, rfl, rfl⟩
  · rcases hE with hE | ⟨hE, hE'⟩
    · exact .inl hE
    · exact .inr ⟨hE, hE'⟩
  · show start + (data ++ (text.drop at').take nn).length ≤ blen
    rw [List.length_append, hlen]; omega
  · show at' + nn ≤ text.length; omega
  · show (data ++ (text.drop at').take nn).length + (text.length - (at' + nn)) ≤ 1099511627776 ∨ L ≤ 140737488355328
    rw [List.length_append, hlen]; omega
  · show (data ++ (text.drop at').take nn) ++ text.drop (at' + nn) = data ++ text.drop at'
    rw [List.append_assoc, ← List.drop_drop, List.take_append_drop]
  · show 2 * (text.length - (at' + nn)) + (if ee = none then 1 else 0) < 2 * (text.length - at') + (if (none : Option Nat) = none then 1 else 0)
    rw [if_pos rfl]
    by_cases hn : ee = none
    · have := hE2 hn
      rw [if_pos hn]; omega
    · rw [if_neg hn]; omega

theorem rest_of {L : Nat} {step : σ → List UInt8 → Bool → Ans σ} (ps : List Int) (o : Oc σ) (m : M σ) (h : MI L m) (he : m.err = none) (hL : m.data.length < L ∨ o = .fail 2)
    (ih : ∀ m' : M σ, mu m' < mu m → MI L m' → restOf m' = restOf m → m'.s = m.s → m'.rd.brk = m.rd.brk → m'.rd.text = m.rd.text → ∃ n e, Scans step ps n m' e ∧ OutOk L m.rd e o) :
    ∃ n e, Rest ps (Scans step ps n) m e ∧ OutOk L m.rd e o := by
  have hsh : shiftM m = { m with start := (shiftM m).start } := by unfold shiftM; split <;> rfl
  have hst : (shiftM m).start ≤ m.start := by unfold shiftM; split <;> simp
  have hfull : (shiftM m).start + m.data.length = m.blen → (shiftM m).start = 0 := by
    unfold shiftM
    split
    · intro _; rfl
    · rename_i hh
      intro h2
      have : ¬ 0 < m.start := fun h3 => hh ⟨h3, .inl h2⟩
      omega
  generalize hs : (shiftM m).start = st at *
  obtain ⟨s, data, start, blen, mx, rd, err, emp⟩ := m
  obtain ⟨h1, h2, h3, h4, h5⟩ := h
  simp only at he hL hsh hst hfull h1 h2 h3 h4 h5
  subst he
  have key : ∀ m2 : M σ, m2.err = none → MI L m2 → m2.start + m2.data.length < m2.blen → restOf m2 = restOf (⟨s, data, start, blen, mx, rd, none, emp⟩ : M σ) → mu m2 = mu (⟨s, data, start, blen, mx, rd, none, emp⟩ : M σ) → m2.s = s → m2.rd = rd →
      ∃ n e, Scans step ps n (readM ps m2) e ∧ OutOk L rd e o := fun m2 e1 e2 e3 e4 e5 e6 e7 => by
    obtain ⟨r1, r2, r3, r4, r5⟩ := read_mi ps e2 e1 e3
    exact ih (readM ps m2) (by rw [← e5]; exact r3) r1 (by rw [r2, e4]) (by show m2.s = s; exact e6) (by rw [r4, e7]) (by rw [r5, e7])
  by_cases hf : st + data.length = blen
  · have h0 := hfull hf
    subst h0
    by_cases hmx : mx ≤ (blen : Int)
    · have ho : o = .fail 2 := by
        rcases hL with hL | hL
        · omega
        · exact hL
      subst ho
      refine ⟨1, ⟨false, none, false, { (⟨s, data, 0, blen, mx, rd, none, emp⟩ : M σ) with err := setE none 2 }⟩, ?_, rfl, rfl, none, .inl rfl, rfl⟩
      unfold Rest
      rw [if_neg (by simp), hsh]
      simp only
      rw [if_pos hf, if_pos hmx]
      refine ⟨?_, ?_, ?_⟩ <;> first | trivial | rfl
    have hnl : newLen (⟨s, data, 0, blen, mx, rd, none, emp⟩ : M σ) ≤ 140737488355328 ∧ blen < newLen (⟨s, data, 0, blen, mx, rd, none, emp⟩ : M σ) ∧ ((newLen (⟨s, data, 0, blen, mx, rd, none, emp⟩ : M σ) : Nat) : Int) ≤ mx := by
      unfold newLen
      simp only
      split <;> omega
    obtain ⟨n1, n2, n3⟩ := hnl
    obtain ⟨n, e, hsc, hout⟩ := key (growM (⟨s, data, 0, blen, mx, rd, none, emp⟩ : M σ)) rfl ⟨.inl rfl, by show 0 + data.length ≤ newLen _; omega, h3, by
        show (L : Int) = max ((newLen (⟨s, data, 0, blen, mx, rd, none, emp⟩ : M σ) : Nat) : Int) mx
        omega, h5⟩ (by show 0 + data.length < newLen _; omega) rfl rfl rfl rfl
    refine ⟨n, e, ?_, hout⟩
    unfold Rest
    rw [if_neg (by simp), hsh]
    simp only
    rw [if_pos hf, if_neg hmx]
    exact ⟨n1, hsc⟩
  · obtain ⟨n, e, hsc, hout⟩ := key (⟨s, data, st, blen, mx, rd, none, emp⟩ : M σ) rfl ⟨.inl rfl, by show st + data.length ≤ blen; omega, h3, h4, h5⟩ (by show st + data.length < blen; omega) rfl rfl rfl rfl
    refine ⟨n, e, ?_, hout⟩
    unfold Rest
    rw [if_neg (by simp), hsh]
    simp only
    rw [if_neg hf]
    exact hsc

theorem scans_of {L : Nat} {step : σ → List UInt8 → Bool → Ans σ} {Q : σ → List UInt8 → Oc σ → Prop} (hg : Good step Q L) (ps : List Int) (o : Oc σ) : ∀ (k : Nat) (m : M σ), mu m = k → MI L m → Q m.s (restOf m) o → ∃ n e, Scans step ps n m e ∧ OutOk L m.rd e o := by
  intro k
  induction k using Nat.strongRecOn with
  | _ k ih =>
    intro m hk h hQ
    have hrest : ∀ m1 : M σ, m1.err = none → MI L m1 → Q m1.s (restOf m1) o → (m1.data.length < L ∨ o = .fail 2) → m1.rd = m.rd → mu m1 = mu m → ∃ n e, Rest ps (Scans step ps n) m1 e ∧ OutOk L m.rd e o := fun m1 e1 e2 e3 e4 e5 e6 => by
      have := rest_of (step := step) ps o m1 e2 e1 e4 (fun m' a1 a2 a3 a4 a5 a6 => by
        obtain ⟨n, e, b1, b2⟩ := ih (mu m') (by omega) m' rfl a2 (by rw [a3, a4]; exact e3)
        refine ⟨n, e, b1, ?_⟩
        have hee : endE m'.rd = endE m1.rd := by unfold endE; rw [a5]
        cases o with
        | tok t s r => obtain ⟨c1, c2, c3, c4, c5, c6, c7, c8⟩ := b2; exact ⟨c1, c2, c3, c4, c5, c6, by rw [c7, a5], by rw [c8, a6]⟩
        | fail c => obtain ⟨c1, c2, x, c3, c4⟩ := b2; exact ⟨c1, c2, x, by rw [← hee]; exact c3, c4⟩
        | fin t => obtain ⟨c1, c2, c3, c4⟩ := b2; exact ⟨c1, c2, c3, by rw [← hee]; exact c4⟩
        | stop => obtain ⟨c1, c2, c3⟩ := b2; exact ⟨c1, c2, by rw [← hee]; exact c3⟩)
      rw [e5] at this
      exact this
    by_cases hc : m.data ≠ [] ∨ m.err ≠ none
    · have heof : decide (m.err ≠ none) = true → m.rd.text.drop m.rd.at' = [] := fun hd => by
        rcases h.err with h1 | ⟨_, h1⟩
        · simp [h1] at hd
        · rw [h1]; simp
      have hf := hg.fits m.s m.data (m.rd.text.drop m.rd.at') o (decide (m.err ≠ none)) hQ heof (by rcases hc with hc | hc; exact .inl hc; exact .inr (decide_eq_true hc)) (by have h1 := h.fit; have h2 := h.lim; omega)
      have hx : m.err = none ∨ m.err = some (endE m.rd) := by rcases h.err with h1 | ⟨h1, _⟩; exact .inl h1; exact .inr h1
      generalize ha : step m.s m.data (decide (m.err ≠ none)) = a at hf
      cases hae : a.err with
      | some c =>
        rw [hae] at hf
        simp only at hf
        by_cases h6 : c = 6
        · rw [if_pos h6] at hf
          subst hf
          refine ⟨1, ⟨a.tok.isSome, a.tok, true, { m with s := a.st }⟩, ?_, rfl, rfl, rfl, hx⟩
          unfold Scans
          rw [if_pos hc, ha, hae]
          simp only
          rw [if_pos h6]
          refine ⟨?_, ?_, ?_, ?_⟩ <;> first | trivial | rfl
        · rw [if_neg h6] at hf
          obtain ⟨h9, rfl⟩ := hf
          refine ⟨1, ⟨false, none, false, { m with s := a.st, err := setE m.err c }⟩, ?_, rfl, rfl, m.err, hx, rfl⟩
          unfold Scans
          rw [if_pos hc, ha, hae]
          simp only
          rw [if_neg h6]
          refine ⟨h9, ?_, ?_, ?_⟩ <;> first | trivial | rfl
      | none =>
        rw [hae] at hf
        simp only at hf
        by_cases hneg : a.adv < 0
        · rw [if_pos hneg] at hf
          subst hf
          refine ⟨1, ⟨false, none, false, { m with s := a.st, err := setE m.err 3 }⟩, ?_, rfl, rfl, m.err, hx, rfl⟩
          unfold Scans
          rw [if_pos hc, ha, hae]
          simp only
          rw [if_pos hneg]
          refine ⟨?_, ?_, ?_⟩ <;> first | trivial | rfl
        rw [if_neg hneg] at hf
        by_cases hfar : (m.data.length : Int) < a.adv
        · rw [if_pos hfar] at hf
          subst hf
          refine ⟨1, ⟨false, none, false, { m with s := a.st, err := setE m.err 4 }⟩, ?_, rfl, rfl, m.err, hx, rfl⟩
          unfold Scans
          rw [if_pos hc, ha, hae]
          simp only
          rw [if_neg hneg, if_pos hfar]
          refine ⟨?_, ?_, ?_⟩ <;> first | trivial | rfl
        rw [if_neg hfar] at hf
        have hmi : ∀ em, MI L ({ m with s := a.st, data := m.data.drop a.adv.toNat, start := m.start + a.adv.toNat, emp := em } : M σ) := fun em => by
          have f1 := h.fit
          have f2 := h.siz
          refine ⟨h.err, ?_, h.at_, h.lim, ?_⟩
          · show m.start + a.adv.toNat + (m.data.drop a.adv.toNat).length ≤ m.blen
            rw [List.length_drop]; omega
          · show (m.data.drop a.adv.toNat).length + (m.rd.text.length - m.rd.at') ≤ 1099511627776 ∨ L ≤ 140737488355328
            rw [List.length_drop]; omega
        cases hat : a.tok with
        | some t =>
          rw [hat] at hf
          obtain ⟨hp, rfl⟩ := hf
          refine ⟨1, ⟨true, some t, false, { m with s := a.st, data := m.data.drop a.adv.toNat, start := m.start + a.adv.toNat, emp := 0 }⟩, ?_, rfl, rfl, rfl, rfl, rfl, hmi 0, rfl, rfl⟩
          unfold Scans
          rw [if_pos hc, ha, hae]
          simp only
          rw [if_neg hneg, if_neg hfar, hat]
          simp only
          rw [if_pos (.inr hp)]
          refine ⟨?_, ?_, ?_, ?_⟩ <;> first | trivial | rfl
        | none =>
          rw [hat] at hf
          simp only at hf
          by_cases hee : m.err = none
          · rw [if_neg (by simp [hee])] at hf
            obtain ⟨n, e, b1, b2⟩ := hrest ({ m with s := a.st, data := m.data.drop a.adv.toNat, start := m.start + a.adv.toNat } : M σ) hee (hmi m.emp) hf.1 (by show (m.data.drop a.adv.toNat).length < L ∨ _; rw [List.length_drop]; exact hf.2) rfl rfl
            refine ⟨n + 1, e, ?_, b2⟩
            unfold Scans
            rw [if_pos hc, ha, hae]
            simp only
            rw [if_neg hneg, if_neg hfar, hat]
            exact b1
          · rw [if_pos (by simp [hee])] at hf
            subst hf
            have hx2 : m.err = some (endE m.rd) := by rcases hx with hx | hx; exact absurd hx hee; exact hx
            refine ⟨1, ⟨false, none, false, { m with s := a.st, data := [], start := 0 }⟩, ?_, rfl, rfl, hx2⟩
            unfold Scans
            rw [if_pos hc, ha, hae]
            simp only
            rw [if_neg hneg, if_neg hfar, hat]
            simp only
            unfold Rest
            rw [if_pos hee]
            refine ⟨?_, ?_, ?_⟩ <;> first | trivial | rfl
    · have hd : m.data = [] ∧ m.err = none := by
        refine ⟨?_, ?_⟩
        · by_cases hd : m.data = []; exact hd; exact absurd (.inl hd) hc
        · by_cases hd : m.err = none; exact hd; exact absurd (.inr hd) hc
      obtain ⟨n, e, b1, b2⟩ := hrest m hd.2 h hQ (by rw [hd.1]; exact .inl hg.pos) rfl rfl
      refine ⟨n + 1, e, ?_, b2⟩
      unfold Scans
      rw [if_neg hc]
      exact b1

/-- The tokens of all that is left. -/
inductive Run (Q : σ → List UInt8 → Oc σ → Prop) : σ → List UInt8 → List (List UInt8) → Option Nat → Prop where
  | tok {s r t s' r' ts err} : Q s r (.tok t s' r') → Run Q s' r' ts err → Run Q s r (t :: ts) err
  | fail {s r c} : Q s r (.fail c) → Run Q s r [] (some c)
  | fin {s r t} : Q s r (.fin (some t)) → Run Q s r [t] none
  | fin0 {s r} : Q s r (.fin none) → Run Q s r [] none
  | stop {s r} : Q s r .stop → Run Q s r [] none

theorem toks_of {L : Nat} {step : σ → List UInt8 → Bool → Ans σ} {Q : σ → List UInt8 → Oc σ → Prop} (hg : Good step Q L) (ps : List Int) {s : σ} {r : List UInt8} {ts : List (List UInt8)} {err : Option Nat} (hr : Run Q s r ts err) :
    ∀ m : M σ, MI L m → m.s = s → restOf m = r → ∃ n x, Toks step ps n m false ts x ∧
      ∃ y, (y = none ∨ y = some (endE m.rd)) ∧ ((err = none ∧ x = y) ∨ ∃ c, err = some c ∧ x = setE y c) := by
  induction hr with
  | tok hq _ ih =>
    intro m hm hs hr
    obtain ⟨k, e, h1, c1, c2, c3, c4, c5, c6, c7, c8⟩ := scans_of hg ps _ _ m rfl hm (by rw [hs, hr]; exact hq)
    obtain ⟨n, x, h2, y, h3, h4⟩ := ih e.m c6 c4 c5
    have hee : endE e.m.rd = endE m.rd := by unfold endE; rw [c7]
    rw [hee] at h3
    exact ⟨n + 1, x, .inr ⟨rfl, k, e, h1, .inr ⟨_, _, c1, c2, rfl, by rw [c3]; exact h2⟩⟩, y, h3, h4⟩
  | fail hq =>
    intro m hm hs hr
    obtain ⟨k, e, h1, c1, c2, x, c3, c4⟩ := scans_of hg ps _ _ m rfl hm (by rw [hs, hr]; exact hq)
    exact ⟨1, e.m.err, .inr ⟨rfl, k, e, h1, .inl ⟨c1, rfl, rfl⟩⟩, x, c3, .inr ⟨_, rfl, c4⟩⟩
  | fin hq =>
    intro m hm hs hr
    obtain ⟨k, e, h1, c1, c2, c3, c4⟩ := scans_of hg ps _ _ m rfl hm (by rw [hs, hr]; exact hq)
    exact ⟨2, e.m.err, .inr ⟨rfl, k, e, h1, .inr ⟨_, _, c1, c2, rfl, .inl ⟨c3, rfl, rfl⟩⟩⟩, e.m.err, c4, .inl ⟨rfl, rfl⟩⟩
  | fin0 hq =>
    intro m hm hs hr
    obtain ⟨k, e, h1, c1, c2, c3, c4⟩ := scans_of hg ps _ _ m rfl hm (by rw [hs, hr]; exact hq)
    exact ⟨1, e.m.err, .inr ⟨rfl, k, e, h1, .inl ⟨c1, rfl, rfl⟩⟩, e.m.err, c4, .inl ⟨rfl, rfl⟩⟩
  | stop hq =>
    intro m hm hs hr
    obtain ⟨k, e, h1, c1, c2, c3⟩ := scans_of hg ps _ _ m rfl hm (by rw [hs, hr]; exact hq)
    exact ⟨1, e.m.err, .inr ⟨rfl, k, e, h1, .inl ⟨c1, rfl, rfl⟩⟩, e.m.err, .inr c3, .inl ⟨rfl, rfl⟩⟩
end
end Go.HE
