/- Split functions around split functions: plain mathematics. Conditions: those of the lemmas. -/
import Derived.Test.YtkaomlklllinlaaDoorAll
set_option maxRecDepth 100000
set_option maxHeartbeats 1000000
namespace Go.HE

section
variable {σ : Type}
/-- How an answer fits an outcome of all that is left. -/
inductive An (Q : σ → List UInt8 → Oc σ → Prop) (eof : Bool) (data tl : List UInt8) (a : Ans σ) (o : Oc σ) : Prop where
  | tok (t : List UInt8) (h1 : a.err = none) (h2 : a.tok = some t) (h3 : o = .tok t a.st (data.drop a.adv.toNat ++ tl))
  | fail (h1 : a.err = some 7) (h2 : a.tok = none) (h3 : o = .fail 7)
  | neg (h1 : a.err = none) (h2 : a.tok = none) (h3 : a.adv < 0) (h4 : o = .fail 3)
  | far (h1 : a.err = none) (h2 : a.tok = none) (h3 : (data.length : Int) < a.adv) (h4 : o = .fail 4)
  | fin (h1 : a.err = some 6) (h3 : o = .fin a.tok)
  | stop (h0 : eof = true) (h1 : a.err = none) (h2 : a.tok = none) (h3 : 0 ≤ a.adv) (h4 : a.adv ≤ data.length) (h5 : Q a.st [] .stop) (h6 : o = .stop)
  | more (h0 : eof = false) (h1 : a.err = none) (h2 : a.tok = none) (h3 : 0 ≤ a.adv) (h4 : a.adv ≤ data.length) (h5 : Q a.st (data.drop a.adv.toNat ++ tl) o)

/-- What is so of a split function's answers in every state. -/
structure StepOk (step : σ → List UInt8 → Bool → Ans σ) : Prop where
  tok : ∀ s d e t, (d ≠ [] ∨ e = true) → (step s d e).tok = some t → (((step s d e).err = none ∧ 0 < (step s d e).adv) ∨ (step s d e).err = some 6) ∧ 0 ≤ (step s d e).adv ∧ (step s d e).adv ≤ d.length ∧ t.length ≤ d.length
  rng : ∀ s d e, (d ≠ [] ∨ e = true) → -1 ≤ (step s d e).adv ∧ (step s d e).adv ≤ d.length + 1
  err : ∀ s d e c, (step s d e).err = some c → c = 6 ∨ c = 7

def Fits (step : σ → List UInt8 → Bool → Ans σ) (Q : σ → List UInt8 → Oc σ → Prop) : Prop :=
  ∀ s data tl o eof, Q s (data ++ tl) o → (eof = true → tl = []) → (data ≠ [] ∨ eof = true) → An Q eof data tl (step s data eof) o

theorem fits_of_good {step : σ → List UInt8 → Bool → Ans σ} {Q : σ → List UInt8 → Oc σ → Prop} {L : Nat} (hg : Good step Q L) (hs : StepOk step) (hlen : ∀ s r o, Q s r o → r.length ≤ L)
    (hstop : ∀ s r, Q s r .stop → (step s r true).tok = none → Q (step s r true).st [] .stop) : Fits step Q := by
  intro s data tl o eof hq he hd
  have hl := hlen s _ o hq
  rw [List.length_append] at hl
  have h := hg.fits s data tl o eof hq he hd (by omega)
  generalize ha : step s data eof = a at h
  have ht := hs.tok s data eof
  have hr := hs.err s data eof
  rw [ha] at ht hr
  cases hae : a.err with
  | some c =>
    rw [hae] at h
    simp only at h
    rcases hr c hae with rfl | rfl
    · rw [if_pos rfl] at h
      exact .fin hae h
    · rw [if_neg (by omega)] at h
      refine .fail hae ?_ h.2
      cases hat : a.tok with
      | none => rfl
      | some t =>
        rcases (ht t hd hat).1 with h1 | h1
        · rw [hae] at h1; cases h1.1
        · rw [hae] at h1; cases h1
  | none =>
    rw [hae] at h
    simp only at h
    have hno : (a.adv < 0 ∨ (data.length : Int) < a.adv) → a.tok = none := fun hx => by
      cases hat : a.tok with
      | none => rfl
      | some t => have := ht t hd hat; omega
    by_cases hneg : a.adv < 0
    · rw [if_pos hneg] at h
      exact .neg hae (hno (.inl hneg)) hneg h
    rw [if_neg hneg] at h
    by_cases hfar : (data.length : Int) < a.adv
    · rw [if_pos hfar] at h
      exact .far hae (hno (.inr hfar)) hfar h
    rw [if_neg hfar] at h
    cases hat : a.tok with
    | some t =>
      rw [hat] at h
      exact .tok t hae hat h.2
    | none =>
      rw [hat] at h
      simp only at h
      by_cases hee : eof = true
      · rw [if_pos hee] at h
        have htl := he hee
        subst htl hee h
        rw [List.append_nil] at hq
        have h5 := hstop s data hq (by rw [ha]; exact hat)
        rw [ha] at h5
        exact .stop rfl hae hat (by omega) (by omega) h5 rfl
      · rw [if_neg hee] at h
        exact .more (by simpa using hee) hae hat (by omega) (by omega) h.1

/-- As Q, of texts that are shorter than the limit. -/
def QL (Q : σ → List UInt8 → Oc σ → Prop) (L : Nat) : σ → List UInt8 → Oc σ → Prop := fun s r o => Q s r o ∧ r.length < L

theorem fits_good {step : σ → List UInt8 → Bool → Ans σ} {Q : σ → List UInt8 → Oc σ → Prop} {L : Nat} (hs : StepOk step) (hf : Fits step Q) (hL : 0 < L) : Good step (QL Q L) L := by
  refine ⟨hL, fun s data tl o eof hq he hd _ => ?_⟩
  obtain ⟨hq, hl⟩ := hq
  rw [List.length_append] at hl
  have h := hf s data tl o eof hq he hd
  have ht := hs.tok s data eof
  generalize ha : step s data eof = a at h ht
  cases h with
  | tok t h1 h2 h3 =>
    have h4 := ht t hd h2
    have h5 : 0 < a.adv := by
      rcases h4.1 with h | h
      · exact h.2
      · rw [h1] at h; cases h
    rw [h1, h2]
    simp only
    rw [if_neg (by omega), if_neg (by omega)]
    exact ⟨h5, h3⟩
  | fail h1 h2 h3 =>
    rw [h1]
    simp only
    rw [if_neg (by omega)]
    exact ⟨by omega, h3⟩
  | neg h1 h2 h3 h4 =>
    rw [h1]
    simp only
    rw [if_pos h3]
    exact h4
  | far h1 h2 h3 h4 =>
    rw [h1]
    simp only
    rw [if_neg (by omega), if_pos h3]
    exact h4
  | fin h1 h3 =>
    rw [h1]
    simp only [if_true]
    exact h3
  | stop h0 h1 h2 h3 h4 h5 h6 =>
    rw [h1, h2]
    simp only
    rw [if_neg (by omega), if_neg (by omega), if_pos h0]
    exact h6
  | more h0 h1 h2 h3 h4 h5 =>
    rw [h1, h2]
    simp only
    rw [if_neg (by omega), if_neg (by omega), if_neg (by rw [h0]; simp)]
    refine ⟨⟨h5, ?_⟩, .inl (by omega)⟩
    rw [List.length_append, List.length_drop]
    omega

theorem run_ql {step : σ → List UInt8 → Bool → Ans σ} {Q : σ → List UInt8 → Oc σ → Prop} {L : Nat} (hf : Fits step Q) {s : σ} {r : List UInt8} {ts : List (List UInt8)} {err : Option Nat} (h : Run Q s r ts err) (hl : r.length < L) : Run (QL Q L) s r ts err := by
  induction h with
  | @tok s r t s' r' ts err hq _ ih =>
    refine .tok ⟨hq, hl⟩ (ih ?_)
    have h := hf s r [] _ true (by rw [List.append_nil]; exact hq) (fun _ => rfl) (.inr rfl)
    cases h with
    | tok t h1 h2 h3 =>
      cases h3
      rw [List.append_nil, List.length_drop]; omega
    | fail h1 h2 h3 => cases h3
    | neg h1 h2 h3 h4 => cases h4
    | far h1 h2 h3 h4 => cases h4
    | fin h1 h3 => cases h3
    | stop h0 h1 h2 h3 h4 h5 h6 => cases h6
    | more h0 => cases h0
  | fail hq => exact .fail ⟨hq, hl⟩
  | fin hq => exact .fin ⟨hq, hl⟩
  | fin0 hq => exact .fin0 ⟨hq, hl⟩
  | stop hq => exact .stop ⟨hq, hl⟩

/-! Tokens changed. -/
def chStep (f : List UInt8 → List UInt8) (step : σ → List UInt8 → Bool → Ans σ) : σ → List UInt8 → Bool → Ans σ := fun s d e => { step s d e with tok := (step s d e).tok.map f }
def Oc.ch (f : List UInt8 → List UInt8) : Oc σ → Oc σ
  | .tok t s r => .tok (f t) s r
  | .fin t => .fin (t.map f)
  | .fail c => .fail c
  | .stop => .stop
def chQ (f : List UInt8 → List UInt8) (Q : σ → List UInt8 → Oc σ → Prop) : σ → List UInt8 → Oc σ → Prop := fun s r o' => ∃ o, Q s r o ∧ o' = o.ch f
variable {step : σ → List UInt8 → Bool → Ans σ} {Q : σ → List UInt8 → Oc σ → Prop}
theorem ch_step {f : List UInt8 → List UInt8} (hs : StepOk step) (hf : ∀ t, (f t).length ≤ t.length) : StepOk (chStep f step) := by
  refine ⟨fun s d e t hd ht => ?_, fun s d e hd => hs.rng s d e hd, fun s d e c h => hs.err s d e c h⟩
  obtain ⟨u, hu, rfl⟩ := Option.map_eq_some_iff.1 ht
  obtain ⟨h1, h2, h3, h4⟩ := hs.tok s d e u hd hu
  exact ⟨h1, h2, h3, Nat.le_trans (hf u) h4⟩
theorem ch_fits {f : List UInt8 → List UInt8} (h : Fits step Q) : Fits (chStep f step) (chQ f Q) := by
  rintro s data tl o' eof ⟨o, hq, rfl⟩ he hd
  cases h s data tl o eof hq he hd with
  | tok t h1 h2 h3 => subst h3; exact .tok (f t) h1 (by show Option.map f _ = _; rw [h2]; rfl) rfl
  | fail h1 h2 h3 => subst h3; exact .fail h1 (by show Option.map f _ = _; rw [h2]; rfl) rfl
  | neg h1 h2 h3 h4 => subst h4; exact .neg h1 (by show Option.map f _ = _; rw [h2]; rfl) h3 rfl
  | far h1 h2 h3 h4 => subst h4; exact .far h1 (by show Option.map f _ = _; rw [h2]; rfl) h3 rfl
  | fin h1 h3 => subst h3; exact .fin h1 rfl
  | stop h0 h1 h2 h3 h4 h5 h6 => subst h6; exact .stop h0 h1 (by show Option.map f _ = _; rw [h2]; rfl) h3 h4 ⟨_, h5, rfl⟩ rfl
  | more h0 h1 h2 h3 h4 h5 => exact .more h0 h1 (by show Option.map f _ = _; rw [h2]; rfl) h3 h4 ⟨_, h5, rfl⟩
theorem ch_run {f : List UInt8 → List UInt8} {s : σ} {r : List UInt8} {ts : List (List UInt8)} {err : Option Nat} (h : Run Q s r ts err) : Run (chQ f Q) s r (ts.map f) err := by
  induction h with
  | tok hq _ ih => exact .tok ⟨_, hq, rfl⟩ ih
  | fail hq => exact .fail ⟨_, hq, rfl⟩
  | fin hq => exact .fin ⟨_, hq, rfl⟩
  | fin0 hq => exact .fin0 ⟨_, hq, rfl⟩
  | stop hq => exact .stop ⟨_, hq, rfl⟩

/-! A stop, or a failure, at a token. -/
def meetStep (x : List UInt8) (fails : Bool) (step : σ → List UInt8 → Bool → Ans σ) : σ → List UInt8 → Bool → Ans σ := fun s d e =>
  if (step s d e).tok = some x then (if fails = true then ⟨0, none, some 7, (step s d e).st⟩ else ⟨(step s d e).adv, none, some 6, (step s d e).st⟩) else step s d e
def Oc.meet (x : List UInt8) (fails : Bool) : Oc σ → Oc σ
  | .tok t s r => if t = x then (if fails = true then .fail 7 else .fin none) else .tok t s r
  | .fin t => if t = some x then (if fails = true then .fail 7 else .fin none) else .fin t
  | .fail c => .fail c
  | .stop => .stop
def meetQ (x : List UInt8) (fails : Bool) (Q : σ → List UInt8 → Oc σ → Prop) : σ → List UInt8 → Oc σ → Prop := fun s r o' => ∃ o, Q s r o ∧ o' = o.meet x fails
theorem meet_step {x : List UInt8} {fails : Bool} (hs : StepOk step) : StepOk (meetStep x fails step) := by
  refine ⟨fun s d e t hd ht => ?_, fun s d e hd => ?_, fun s d e c h => ?_⟩
  · unfold meetStep at ht ⊢
    split at ht
    · split at ht <;> cases ht
    · rename_i hx
      rw [if_neg hx]
      exact hs.tok s d e t hd ht
  · unfold meetStep
    have := hs.rng s d e hd
    split
    · split
      · exact ⟨by show (-1 : Int) ≤ 0; omega, by show (0 : Int) ≤ _; omega⟩
      · exact this
    · exact this
  · unfold meetStep at h
    split at h
    · split at h
      · cases h; exact .inr rfl
      · cases h; exact .inl rfl
    · exact hs.err s d e c h
theorem meet_fits {x : List UInt8} {fails : Bool} (h : Fits step Q) : Fits (meetStep x fails step) (meetQ x fails Q) := by
  rintro s data tl o' eof ⟨o, hq, rfl⟩ he hd
  have h := h s data tl o eof hq he hd
  unfold meetStep
  generalize step s data eof = a at h
  have key : a.tok = some x → An (meetQ x fails Q) eof data tl (if fails = true then ⟨0, none, some 7, a.st⟩ else ⟨a.adv, none, some 6, a.st⟩) (if fails = true then .fail 7 else .fin none) := fun _ => by
    cases fails with
    | true => exact .fail rfl rfl rfl
    | false => exact .fin rfl rfl
  cases h with
  | tok t h1 h2 h3 =>
    subst h3
    by_cases ht : t = x
    · subst ht
      rw [if_pos h2]
      show An _ _ _ _ _ (if t = t then _ else _)
      rw [if_pos rfl]
      exact key h2
    · rw [if_neg (by rw [h2]; simpa using ht)]
      refine .tok t h1 h2 ?_
      show (if t = x then _ else _) = _
      rw [if_neg ht]
  | fail h1 h2 h3 => subst h3; rw [if_neg (by rw [h2]; simp)]; exact .fail h1 h2 rfl
  | neg h1 h2 h3 h4 => subst h4; rw [if_neg (by rw [h2]; simp)]; exact .neg h1 h2 h3 rfl
  | far h1 h2 h3 h4 => subst h4; rw [if_neg (by rw [h2]; simp)]; exact .far h1 h2 h3 rfl
  | fin h1 h3 =>
    subst h3
    by_cases ht : a.tok = some x
    · rw [if_pos ht]
      show An _ _ _ _ _ (if a.tok = some x then _ else _)
      rw [if_pos ht]
      exact key ht
    · rw [if_neg ht]
      refine .fin h1 ?_
      show (if a.tok = some x then _ else _) = _
      rw [if_neg ht]
  | stop h0 h1 h2 h3 h4 h5 h6 => subst h6; rw [if_neg (by rw [h2]; simp)]; exact .stop h0 h1 h2 h3 h4 ⟨_, h5, rfl⟩ rfl
  | more h0 h1 h2 h3 h4 h5 => rw [if_neg (by rw [h2]; simp)]; exact .more h0 h1 h2 h3 h4 ⟨_, h5, rfl⟩
/-- The tokens ahead of the first one that is x; the error. -/
def untilT (x : List UInt8) (ts : List (List UInt8)) : List (List UInt8) := ts.takeWhile (fun t => decide (t ≠ x))
def untilE (x : List UInt8) (ts : List (List UInt8)) (fails : Bool) (err : Option Nat) : Option Nat := if x ∈ ts then (if fails = true then some 7 else none) else err
theorem meet_run {x : List UInt8} {fails : Bool} {s : σ} {r : List UInt8} {ts : List (List UInt8)} {err : Option Nat} (h : Run Q s r ts err) : Run (meetQ x fails Q) s r (untilT x ts) (untilE x ts fails err) := by
  have hit : ∀ {s : σ} {r : List UInt8}, meetQ x fails Q s r (if fails = true then .fail 7 else .fin none) → Run (meetQ x fails Q) s r [] (if fails = true then some 7 else none) := fun hq => by
    cases fails with
    | true => exact .fail hq
    | false => exact .fin0 hq
  induction h with
  | @tok s r t s' r' ts err hq _ ih =>
    by_cases ht : t = x
    · subst ht
      have e1 : untilT t (t :: ts) = [] := by simp [untilT]
      have e2 : untilE t (t :: ts) fails err = (if fails = true then some 7 else none) := by simp [untilE]
      rw [e1, e2]
      exact hit ⟨_, hq, by show _ = if t = t then _ else _; rw [if_pos rfl]⟩
    · have e1 : untilT x (t :: ts) = t :: untilT x ts := by simp [untilT, ht]
      have e2 : untilE x (t :: ts) fails err = untilE x ts fails err := by
        have : x ≠ t := fun h => ht h.symm
        simp [untilE, this]
      rw [e1, e2]
      exact .tok ⟨_, hq, by show _ = if t = x then _ else _; rw [if_neg ht]⟩ ih
  | fail hq => exact .fail ⟨_, hq, rfl⟩
  | @fin s r t hq =>
    by_cases ht : t = x
    · subst ht
      have e1 : untilT t [t] = [] := by simp [untilT]
      have e2 : untilE t [t] fails none = (if fails = true then some 7 else none) := by simp [untilE]
      rw [e1, e2]
      exact hit ⟨_, hq, by show _ = if some t = some t then _ else _; rw [if_pos rfl]⟩
    · have e1 : untilT x [t] = [t] := by simp [untilT, ht]
      have e2 : untilE x [t] fails none = none := by
        have : x ≠ t := fun h => ht h.symm
        simp [untilE, this]
      rw [e1, e2]
      exact .fin ⟨_, hq, by show _ = if some t = some x then _ else _; rw [if_neg (by simpa using ht)]⟩
  | fin0 hq => exact .fin0 ⟨_, hq, by simp [Oc.meet]⟩
  | stop hq => exact .stop ⟨_, hq, rfl⟩

/-! Only the first tokens. -/
def takeStep (step : σ → List UInt8 → Bool → Ans σ) : σ × Int → List UInt8 → Bool → Ans (σ × Int) := fun s d e =>
  if s.2 ≤ 0 then ⟨0, none, some 6, s⟩
  else if (step s.1 d e).tok = none ∨ (step s.1 d e).err ≠ none then ⟨(step s.1 d e).adv, (step s.1 d e).tok, (step s.1 d e).err, ((step s.1 d e).st, s.2)⟩
  else ⟨(step s.1 d e).adv, (step s.1 d e).tok, if s.2 = 1 then some 6 else none, ((step s.1 d e).st, s.2 - 1)⟩
def Oc.take (n : Int) : Oc σ → Oc (σ × Int)
  | .tok t s r => if n = 1 then .fin (some t) else .tok t (s, n - 1) r
  | .fin t => .fin t
  | .fail c => .fail c
  | .stop => .stop
def takeQ (Q : σ → List UInt8 → Oc σ → Prop) : σ × Int → List UInt8 → Oc (σ × Int) → Prop := fun s r o' => (s.2 ≤ 0 ∧ o' = .fin none) ∨ (0 < s.2 ∧ ∃ o, Q s.1 r o ∧ o' = o.take s.2)
theorem take_step (hs : StepOk step) : StepOk (takeStep step) := by
  refine ⟨fun s d e t hd ht => ?_, fun s d e hd => ?_, fun s d e c h => ?_⟩
  · unfold takeStep at ht ⊢
    split at ht
    · cases ht
    · rename_i hn
      rw [if_neg hn]
      split at ht
      · rename_i hx
        rw [if_pos hx]
        exact hs.tok s.1 d e t hd ht
      · rename_i hx
        rw [if_neg hx]
        obtain ⟨h1, h2, h3, h4⟩ := hs.tok s.1 d e t hd ht
        refine ⟨?_, h2, h3, h4⟩
        show ((if s.2 = 1 then some 6 else none) = none ∧ _) ∨ (if s.2 = 1 then some 6 else none) = some 6
        by_cases h1' : s.2 = 1
        · rw [if_pos h1']; exact .inr rfl
        · rw [if_neg h1']
          refine .inl ⟨rfl, ?_⟩
          rcases h1 with h1 | h1
          · exact h1.2
          · exact absurd (.inr (by rw [h1]; simp)) hx
  · unfold takeStep
    have := hs.rng s.1 d e hd
    split
    · exact ⟨by show (-1 : Int) ≤ 0; omega, by show (0 : Int) ≤ _; omega⟩
    · split <;> exact this
  · unfold takeStep at h
    split at h
    · cases h; exact .inl rfl
    · split at h
      · exact hs.err s.1 d e c h
      · simp only at h
        split at h
        · cases h; exact .inl rfl
        · cases h
theorem take_fits (h : Fits step Q) : Fits (takeStep step) (takeQ Q) := by
  rintro ⟨s, n⟩ data tl o' eof hq' he hd
  unfold takeStep
  rcases hq' with ⟨hn, rfl⟩ | ⟨hn, o, hq, rfl⟩
  · simp only at hn ⊢
    rw [if_pos hn]
    exact .fin rfl rfl
  simp only at hn hq ⊢
  rw [if_neg (by omega)]
  have h := h s data tl o eof hq he hd
  generalize step s data eof = a at h
  cases h with
  | tok t h1 h2 h3 =>
    subst h3
    rw [if_neg (by rw [h1, h2]; simp)]
    by_cases hn1 : n = 1
    · refine .fin (by show (if n = 1 then some 6 else none) = _; rw [if_pos hn1]) ?_
      show (if n = 1 then _ else _) = _
      rw [if_pos hn1, h2]
    · refine .tok t (by show (if n = 1 then some 6 else none) = _; rw [if_neg hn1]) h2 ?_
      show (if n = 1 then _ else _) = _
      rw [if_neg hn1]
  | fail h1 h2 h3 => subst h3; rw [if_pos (.inl h2)]; exact .fail h1 h2 rfl
  | neg h1 h2 h3 h4 => subst h4; rw [if_pos (.inl h2)]; exact .neg h1 h2 h3 rfl
  | far h1 h2 h3 h4 => subst h4; rw [if_pos (.inl h2)]; exact .far h1 h2 h3 rfl
  | fin h1 h3 => subst h3; rw [if_pos (.inr (by rw [h1]; simp))]; exact .fin h1 rfl
  | stop h0 h1 h2 h3 h4 h5 h6 => subst h6; rw [if_pos (.inl h2)]; exact .stop h0 h1 h2 h3 h4 (.inr ⟨hn, _, h5, rfl⟩) rfl
  | more h0 h1 h2 h3 h4 h5 => rw [if_pos (.inl h2)]; exact .more h0 h1 h2 h3 h4 (.inr ⟨hn, _, h5, rfl⟩)
def takeE (n : Int) (ts : List (List UInt8)) (err : Option Nat) : Option Nat := if (ts.length : Int) < n then err else none
theorem take_run {s : σ} {r : List UInt8} {ts : List (List UInt8)} {err : Option Nat} (h : Run Q s r ts err) : ∀ n : Int, Run (takeQ Q) (s, n) r (ts.take n.toNat) (takeE n ts err) := by
  induction h with
  | @tok s r t s' r' ts err hq _ ih =>
    intro n
    by_cases hn : n ≤ 0
    · rw [show n.toNat = 0 by omega]
      have : takeE n (t :: ts) err = none := by unfold takeE; rw [if_neg (by simp; omega)]
      rw [this]
      exact .fin0 (.inl ⟨hn, rfl⟩)
    by_cases hn1 : n = 1
    · subst hn1
      have : takeE 1 (t :: ts) err = none := by unfold takeE; rw [if_neg (by simp; omega)]
      rw [this]
      exact .fin (.inr ⟨by omega, _, hq, by simp [Oc.take]⟩)
    · have e1 : (t :: ts).take n.toNat = t :: ts.take (n - 1).toNat := by
        rw [show n.toNat = (n - 1).toNat + 1 by omega]; rfl
      have e2 : takeE n (t :: ts) err = takeE (n - 1) ts err := by
        unfold takeE
        have : ((t :: ts).length : Int) < n ↔ (ts.length : Int) < n - 1 := by simp; omega
        by_cases h1 : (ts.length : Int) < n - 1
        · rw [if_pos h1, if_pos (this.2 h1)]
        · rw [if_neg h1, if_neg (fun h => h1 (this.1 h))]
      rw [e1, e2]
      exact .tok (.inr ⟨by show 0 < n; omega, _, hq, by simp [Oc.take, hn1]⟩) (ih (n - 1))
  | @fail s r c hq =>
    intro n
    by_cases hn : n ≤ 0
    · have : takeE n [] (some c) = none := by unfold takeE; rw [if_neg (by simp; omega)]
      rw [this, List.take_nil]
      exact .fin0 (.inl ⟨hn, rfl⟩)
    · have : takeE n [] (some c) = some c := by unfold takeE; rw [if_pos (by simp; omega)]
      rw [this, List.take_nil]
      exact .fail (.inr ⟨by show 0 < n; omega, _, hq, rfl⟩)
  | @fin s r t hq =>
    intro n
    have : takeE n [t] none = none := by unfold takeE; split <;> rfl
    rw [this]
    by_cases hn : n ≤ 0
    · rw [show n.toNat = 0 by omega]
      exact .fin0 (.inl ⟨hn, rfl⟩)
    · rw [List.take_of_length_le (by simp; omega)]
      exact .fin (.inr ⟨by show 0 < n; omega, _, hq, rfl⟩)
  | fin0 hq =>
    intro n
    have : takeE n [] none = none := by unfold takeE; split <;> rfl
    rw [this, List.take_nil]
    by_cases hn : n ≤ 0
    · exact .fin0 (.inl ⟨hn, rfl⟩)
    · exact .fin0 (.inr ⟨by show 0 < n; omega, _, hq, rfl⟩)
  | stop hq =>
    intro n
    have : takeE n [] none = none := by unfold takeE; split <;> rfl
    rw [this, List.take_nil]
    by_cases hn : n ≤ 0
    · exact .fin0 (.inl ⟨hn, rfl⟩)
    · exact .stop (.inr ⟨by show 0 < n; omega, _, hq, rfl⟩)

/-! A wrong advance in the place of a token. -/
def down (n : Int) : Int := if n = -9223372036854775808 then 9223372036854775807 else n - 1
def strayStep (far : Bool) (step : σ → List UInt8 → Bool → Ans σ) : σ × Int → List UInt8 → Bool → Ans (σ × Int) := fun s d e =>
  if (step s.1 d e).tok = none then ⟨(step s.1 d e).adv, none, (step s.1 d e).err, ((step s.1 d e).st, s.2)⟩
  else if 0 ≤ down s.2 then ⟨(step s.1 d e).adv, (step s.1 d e).tok, (step s.1 d e).err, ((step s.1 d e).st, down s.2)⟩
  else ⟨if far = true then (d.length : Int) + 1 else -1, none, none, ((step s.1 d e).st, down s.2)⟩
def Oc.stray (far : Bool) (n : Int) : Oc σ → Oc (σ × Int)
  | .tok t s r => if 0 < n then .tok t (s, n - 1) r else .fail (if far = true then 4 else 3)
  | .fin t => if t = none ∨ 0 < n then .fin t else .fail (if far = true then 4 else 3)
  | .fail c => .fail c
  | .stop => .stop
def strayQ (far : Bool) (Q : σ → List UInt8 → Oc σ → Prop) : σ × Int → List UInt8 → Oc (σ × Int) → Prop := fun s r o' => 0 ≤ s.2 ∧ ∃ o, Q s.1 r o ∧ o' = o.stray far s.2
theorem stray_step {far : Bool} (hs : StepOk step) : StepOk (strayStep far step) := by
  refine ⟨fun s d e t hd ht => ?_, fun s d e hd => ?_, fun s d e c h => ?_⟩
  · unfold strayStep at ht ⊢
    split at ht
    · cases ht
    · rename_i hn
      rw [if_neg hn]
      split at ht
      · rename_i hx
        rw [if_pos hx]
        exact hs.tok s.1 d e t hd ht
      · cases ht
  · unfold strayStep
    have := hs.rng s.1 d e hd
    split
    · exact this
    · split
      · exact this
      · show -1 ≤ (if far = true then (d.length : Int) + 1 else -1) ∧ (if far = true then (d.length : Int) + 1 else -1) ≤ _
        split <;> omega
  · unfold strayStep at h
    split at h
    · exact hs.err s.1 d e c h
    · split at h
      · exact hs.err s.1 d e c h
      · cases h
theorem stray_fits {far : Bool} (h : Fits step Q) : Fits (strayStep far step) (strayQ far Q) := by
  rintro ⟨s, n⟩ data tl o' eof ⟨hn, o, hq, rfl⟩ he hd
  unfold strayStep
  simp only at hn hq ⊢
  have hdn : down n = n - 1 := by unfold down; rw [if_neg (by omega)]
  rw [hdn]
  have h := h s data tl o eof hq he hd
  generalize step s data eof = a at h
  have wrong : ∀ st : σ × Int, An (strayQ far Q) eof data tl ⟨if far = true then (data.length : Int) + 1 else -1, none, none, st⟩ (.fail (if far = true then 4 else 3)) := fun st => by
    cases far with
    | true => exact .far rfl rfl (by simp; omega) rfl
    | false => exact .neg rfl rfl (by simp) rfl
  cases h with
  | tok t h1 h2 h3 =>
    subst h3
    rw [if_neg (by rw [h2]; simp)]
    show An _ _ _ _ _ (if 0 < n then _ else _)
    by_cases hp : 0 < n
    · rw [if_pos (by omega), if_pos hp]
      exact .tok t h1 h2 rfl
    · rw [if_neg (by omega), if_neg hp]
      exact wrong _
  | fail h1 h2 h3 => subst h3; rw [if_pos h2]; exact .fail h1 rfl rfl
  | neg h1 h2 h3 h4 => subst h4; rw [if_pos h2]; exact .neg h1 rfl h3 rfl
  | far h1 h2 h3 h4 => subst h4; rw [if_pos h2]; exact .far h1 rfl h3 rfl
  | fin h1 h3 =>
    subst h3
    show An _ _ _ _ _ (if a.tok = none ∨ 0 < n then _ else _)
    by_cases hx : a.tok = none
    · rw [if_pos hx, if_pos (.inl hx)]
      exact .fin h1 (by rw [hx])
    · rw [if_neg hx]
      by_cases hp : 0 < n
      · rw [if_pos (by omega), if_pos (.inr hp)]
        exact .fin h1 rfl
      · rw [if_neg (show ¬ 0 ≤ n - 1 by omega), if_neg (show ¬ (a.tok = none ∨ 0 < n) from fun hh => hh.elim hx hp)]
        exact wrong _
  | stop h0 h1 h2 h3 h4 h5 h6 => subst h6; rw [if_pos h2]; exact .stop h0 h1 rfl h3 h4 ⟨hn, _, h5, rfl⟩ rfl
  | more h0 h1 h2 h3 h4 h5 => rw [if_pos h2]; exact .more h0 h1 rfl h3 h4 ⟨hn, _, h5, rfl⟩
def strayE (far : Bool) (n : Nat) (ts : List (List UInt8)) (err : Option Nat) : Option Nat := if ts.length ≤ n then err else some (if far = true then 4 else 3)
theorem stray_run {far : Bool} {s : σ} {r : List UInt8} {ts : List (List UInt8)} {err : Option Nat} (h : Run Q s r ts err) : ∀ n : Nat, Run (strayQ far Q) (s, (n : Int)) r (ts.take n) (strayE far n ts err) := by
  induction h with
  | @tok s r t s' r' ts err hq _ ih =>
    intro n
    cases n with
    | zero =>
      have : strayE far 0 (t :: ts) err = some (if far = true then 4 else 3) := by unfold strayE; rw [if_neg (by simp)]
      rw [this]
      exact .fail ⟨by simp, _, hq, by simp [Oc.stray]⟩
    | succ n =>
      have : strayE far (n + 1) (t :: ts) err = strayE far n ts err := by
        unfold strayE
        have : (t :: ts).length ≤ n + 1 ↔ ts.length ≤ n := by simp
        by_cases h1 : ts.length ≤ n
        · rw [if_pos h1, if_pos (this.2 h1)]
        · rw [if_neg h1, if_neg (fun h => h1 (this.1 h))]
      rw [this, List.take_succ_cons]
      refine .tok ⟨by show (0 : Int) ≤ _; omega, _, hq, ?_⟩ (ih n)
      show _ = if (0 : Int) < ((n + 1 : Nat) : Int) then Oc.tok t (s', ((n + 1 : Nat) : Int) - 1) r' else _
      rw [if_pos (by omega), show ((n + 1 : Nat) : Int) - 1 = (n : Int) by omega]
  | @fail s r c hq =>
    intro n
    have : strayE far n [] (some c) = some c := by unfold strayE; rw [if_pos (by simp)]
    rw [this, List.take_nil]
    exact .fail ⟨by show (0 : Int) ≤ _; omega, _, hq, rfl⟩
  | @fin s r t hq =>
    intro n
    cases n with
    | zero =>
      have : strayE far 0 [t] none = some (if far = true then 4 else 3) := by unfold strayE; rw [if_neg (by simp)]
      rw [this]
      exact .fail ⟨by simp, _, hq, by simp [Oc.stray]⟩
    | succ n =>
      have : strayE far (n + 1) [t] none = none := by unfold strayE; rw [if_pos (by simp)]
      rw [this, List.take_of_length_le (by simp)]
      refine .fin ⟨by show (0 : Int) ≤ _; omega, _, hq, ?_⟩
      show _ = if some t = none ∨ (0 : Int) < ((n + 1 : Nat) : Int) then _ else _
      rw [if_pos (.inr (by omega))]
  | fin0 hq =>
    intro n
    have : strayE far n [] none = none := by unfold strayE; rw [if_pos (by simp)]
    rw [this, List.take_nil]
    exact .fin0 ⟨by show (0 : Int) ≤ _; omega, _, hq, by simp [Oc.stray]⟩
  | stop hq =>
    intro n
    have : strayE far n [] none = none := by unfold strayE; rw [if_pos (by simp)]
    rw [this, List.take_nil]
    exact .stop ⟨by show (0 : Int) ≤ _; omega, _, hq, rfl⟩

/-! Tokens left out. -/
def dropF (x : List UInt8) (step : σ → List UInt8 → Bool → Ans σ) : Nat → σ → List UInt8 → Bool → Ans σ
  | 0, s, _, _ => ⟨0, none, none, s⟩
  | k + 1, s, d, e =>
    if (step s d e).tok ≠ some x then step s d e
    else if (step s d e).err ≠ none then ⟨(step s d e).adv, none, (step s d e).err, (step s d e).st⟩
    else if e = false ∧ (step s d e).adv.toNat = d.length then ⟨(step s d e).adv, none, none, (step s d e).st⟩
    else
      let b := dropF x step k (step s d e).st (d.drop (step s d e).adv.toNat) e
      if b.adv < 0 then b else ⟨(step s d e).adv + b.adv, b.tok, b.err, b.st⟩
def dropStep (x : List UInt8) (step : σ → List UInt8 → Bool → Ans σ) : σ → List UInt8 → Bool → Ans σ := fun s d e => dropF x step (d.length + 1) s d e
inductive dropQ (x : List UInt8) (Q : σ → List UInt8 → Oc σ → Prop) : σ → List UInt8 → Oc σ → Prop where
  | skip {s s' r r' o} : Q s r (.tok x s' r') → dropQ x Q s' r' o → dropQ x Q s r o
  | same {s r o} : Q s r o → (∀ s' r', o ≠ .tok x s' r') → o ≠ .fin (some x) → dropQ x Q s r o
  | fin {s r} : Q s r (.fin (some x)) → dropQ x Q s r (.fin none)
/-- What one round of 'drop' needs of its inner function. -/
theorem drop_round {x : List UInt8} (hs : StepOk step) {s : σ} {d : List UInt8} {e : Bool} (hd : d ≠ [] ∨ e = true) (h1 : (step s d e).tok = some x) (h2 : (step s d e).err = none) : 0 < (step s d e).adv ∧ (step s d e).adv ≤ d.length := by
  have h := hs.tok s d e x hd h1
  refine ⟨?_, h.2.2.1⟩
  rcases h.1 with h | h
  · exact h.2
  · rw [h2] at h; cases h
theorem drop_next {d : List UInt8} {e : Bool} {n : Int} (h : ¬ (e = false ∧ n.toNat = d.length)) (h1 : n ≤ d.length) : d.drop n.toNat ≠ [] ∨ e = true := by
  cases e with
  | true => exact .inr rfl
  | false =>
    refine .inl fun h0 => h ⟨rfl, ?_⟩
    have := congrArg List.length h0
    simp at this
    omega
theorem dropF_step {x : List UInt8} (hs : StepOk step) : ∀ (k : Nat) (s : σ) (d : List UInt8) (e : Bool), d.length < k → (d ≠ [] ∨ e = true) →
    (∀ t, (dropF x step k s d e).tok = some t → (((dropF x step k s d e).err = none ∧ 0 < (dropF x step k s d e).adv) ∨ (dropF x step k s d e).err = some 6) ∧ 0 ≤ (dropF x step k s d e).adv ∧ (dropF x step k s d e).adv ≤ d.length ∧ t.length ≤ d.length) ∧
    (-1 ≤ (dropF x step k s d e).adv ∧ (dropF x step k s d e).adv ≤ d.length + 1)
  | 0, s, d, e, h, _ => by omega
  | k + 1, s, d, e, h, hd => by
    have h0 := hs.tok s d e
    have h1 := hs.rng s d e hd
    unfold dropF
    by_cases hx : (step s d e).tok ≠ some x
    · rw [if_pos hx]
      exact ⟨fun t ht => h0 t hd ht, h1⟩
    rw [if_neg hx]
    have hx : (step s d e).tok = some x := Classical.not_not.1 hx
    by_cases hr : (step s d e).err ≠ none
    · rw [if_pos hr]
      exact ⟨fun t ht => (by cases ht), h1⟩
    rw [if_neg hr]
    have hr : (step s d e).err = none := Classical.not_not.1 hr
    obtain ⟨p1, p2⟩ := drop_round hs hd hx hr
    by_cases hl : e = false ∧ (step s d e).adv.toNat = d.length
    · rw [if_pos hl]
      exact ⟨fun t ht => (by cases ht), h1⟩
    rw [if_neg hl]
    have hlen : (d.drop (step s d e).adv.toNat).length = d.length - (step s d e).adv.toNat := List.length_drop
    have ih := dropF_step (x := x) hs k (step s d e).st (d.drop (step s d e).adv.toNat) e (by omega) (drop_next hl p2)
    simp only
    generalize dropF x step k (step s d e).st (d.drop (step s d e).adv.toNat) e = b at ih
    obtain ⟨i1, i2⟩ := ih
    by_cases hb : b.adv < 0
    · rw [if_pos hb]
      exact ⟨fun t ht => by have := i1 t ht; omega, by omega⟩
    · rw [if_neg hb]
      refine ⟨fun t ht => ?_, by show -1 ≤ (step s d e).adv + b.adv ∧ (step s d e).adv + b.adv ≤ _; omega⟩
      obtain ⟨j1, j2, j3, j4⟩ := i1 t ht
      refine ⟨?_, by show 0 ≤ (step s d e).adv + b.adv; omega, by show (step s d e).adv + b.adv ≤ _; omega, by omega⟩
      rcases j1 with ⟨q1, q2⟩ | q1
      · exact .inl ⟨q1, by show 0 < (step s d e).adv + b.adv; omega⟩
      · exact .inr q1
theorem dropF_err {x : List UInt8} (hs : StepOk step) : ∀ (k : Nat) (s : σ) (d : List UInt8) (e : Bool) (c : Nat), (dropF x step k s d e).err = some c → c = 6 ∨ c = 7
  | 0, s, d, e, c, h => by cases h
  | k + 1, s, d, e, c, h => by
    unfold dropF at h
    split at h
    · exact hs.err s d e c h
    · split at h
      · exact hs.err s d e c h
      · split at h
        · cases h
        · simp only at h
          split at h
          · exact dropF_err hs k _ _ _ c h
          · exact dropF_err hs k _ _ _ c h
theorem drop_step {x : List UInt8} (hs : StepOk step) : StepOk (dropStep x step) :=
  ⟨fun s d e t hd ht => (dropF_step hs (d.length + 1) s d e (Nat.lt_succ_self _) hd).1 t ht, fun s d e hd => (dropF_step hs (d.length + 1) s d e (Nat.lt_succ_self _) hd).2, fun s d e c h => dropF_err hs _ s d e c h⟩
theorem dropF_fits {x : List UInt8} (hs : StepOk step) (hf : Fits step Q) : ∀ (k : Nat) (s : σ) (data tl : List UInt8) (o : Oc σ) (eof : Bool), data.length < k → dropQ x Q s (data ++ tl) o → (eof = true → tl = []) → (data ≠ [] ∨ eof = true) → An (dropQ x Q) eof data tl (dropF x step k s data eof) o
  | 0, s, data, tl, o, eof, h, _, _, _ => by omega
  | k + 1, s, data, tl, o, eof, hk, hq, he, hd => by
    have h0 := hf s data tl
    unfold dropF
    generalize hr : data ++ tl = r at hq
    rw [hr] at h0
    cases hq with
    | @skip _ s' _ r' _ hq hq' =>
      cases h0 _ eof hq he hd with
      | tok t h1 h2 h3 =>
        cases h3
        rw [if_neg (by rw [h2]; simp), if_neg (by rw [h1]; simp)]
        obtain ⟨p1, p2⟩ := drop_round hs hd h2 h1
        have hlen : (data.drop (step s data eof).adv.toNat).length = data.length - (step s data eof).adv.toNat := List.length_drop
        by_cases hl : eof = false ∧ (step s data eof).adv.toNat = data.length
        · rw [if_pos hl]
          exact .more hl.1 rfl rfl (by show 0 ≤ (step s data eof).adv; omega) p2 hq'
        rw [if_neg hl]
        have ih := dropF_fits hs hf k (step s data eof).st (data.drop (step s data eof).adv.toNat) tl o eof (by omega) hq' he (drop_next hl p2)
        have hstep := dropF_step (x := x) hs k (step s data eof).st (data.drop (step s data eof).adv.toNat) eof (by omega) (drop_next hl p2)
        simp only
        generalize dropF x step k (step s data eof).st (data.drop (step s data eof).adv.toNat) eof = b at ih hstep
        have hdd : 0 ≤ b.adv → data.drop ((step s data eof).adv + b.adv).toNat = (data.drop (step s data eof).adv.toNat).drop b.adv.toNat := fun hb => by
          rw [List.drop_drop]
          congr 1
          omega
        cases ih with
        | tok t i1 i2 i3 =>
          have := (hstep.1 t i2).2.1
          rw [if_neg (by omega)]
          refine .tok t i1 i2 ?_
          show o = .tok t b.st (data.drop ((step s data eof).adv + b.adv).toNat ++ tl)
          rw [hdd this]; exact i3
        | fail i1 i2 i3 =>
          split
          · exact .fail i1 i2 i3
          · exact .fail i1 i2 i3
        | neg i1 i2 i3 i4 => rw [if_pos i3]; exact .neg i1 i2 i3 i4
        | far i1 i2 i3 i4 => rw [if_neg (by omega)]; exact .far i1 i2 (by show _ < (step s data eof).adv + b.adv; omega) i4
        | fin i1 i3 =>
          split
          · exact .fin i1 i3
          · exact .fin i1 i3
        | stop i0 i1 i2 i3 i4 i5 i6 =>
          rw [if_neg (by omega)]
          exact .stop i0 i1 i2 (by show 0 ≤ (step s data eof).adv + b.adv; omega) (by show (step s data eof).adv + b.adv ≤ _; omega) i5 i6
        | more i0 i1 i2 i3 i4 i5 =>
          rw [if_neg (by omega)]
          refine .more i0 i1 i2 (by show 0 ≤ (step s data eof).adv + b.adv; omega) (by show (step s data eof).adv + b.adv ≤ _; omega) ?_
          show dropQ x Q b.st (data.drop ((step s data eof).adv + b.adv).toNat ++ tl) o
          rw [hdd i3]; exact i5
      | fail h1 h2 h3 => cases h3
      | neg h1 h2 h3 h4 => cases h4
      | far h1 h2 h3 h4 => cases h4
      | fin h1 h3 => cases h3
      | stop h0 h1 h2 h3 h4 h5 h6 => cases h6
      | more h0 h1 h2 h3 h4 h5 =>
        rw [if_pos (by rw [h2]; simp)]
        exact .more h0 h1 h2 h3 h4 (.skip h5 hq')
    | same hq n1 n2 =>
      cases h0 _ eof hq he hd with
      | tok t h1 h2 h3 =>
        subst h3
        have ht : t ≠ x := fun h => n1 _ _ (by rw [h])
        rw [if_pos (by rw [h2]; simpa using ht)]
        exact .tok t h1 h2 rfl
      | fail h1 h2 h3 => subst h3; rw [if_pos (by rw [h2]; simp)]; exact .fail h1 h2 rfl
      | neg h1 h2 h3 h4 => subst h4; rw [if_pos (by rw [h2]; simp)]; exact .neg h1 h2 h3 rfl
      | far h1 h2 h3 h4 => subst h4; rw [if_pos (by rw [h2]; simp)]; exact .far h1 h2 h3 rfl
      | fin h1 h3 =>
        subst h3
        rw [if_pos (fun h => n2 (by rw [h]))]
        exact .fin h1 rfl
      | stop h0 h1 h2 h3 h4 h5 h6 => subst h6; rw [if_pos (by rw [h2]; simp)]; exact .stop h0 h1 h2 h3 h4 (.same h5 (fun _ _ h => by cases h) (by simp)) rfl
      | more h0 h1 h2 h3 h4 h5 => rw [if_pos (by rw [h2]; simp)]; exact .more h0 h1 h2 h3 h4 (.same h5 n1 n2)
    | fin hq =>
      cases h0 _ eof hq he hd with
      | tok t h1 h2 h3 => cases h3
      | fail h1 h2 h3 => cases h3
      | neg h1 h2 h3 h4 => cases h4
      | far h1 h2 h3 h4 => cases h4
      | fin h1 h3 =>
        have h3' : (step s data eof).tok = some x := by injection h3 with h3; exact h3.symm
        rw [if_neg (by rw [h3']; simp), if_pos (by rw [h1]; simp)]
        exact .fin h1 rfl
      | stop h0 h1 h2 h3 h4 h5 h6 => cases h6
      | more h0 h1 h2 h3 h4 h5 =>
        rw [if_pos (by rw [h2]; simp)]
        exact .more h0 h1 h2 h3 h4 (.fin h5)
theorem drop_fits {x : List UInt8} (hs : StepOk step) (hf : Fits step Q) : Fits (dropStep x step) (dropQ x Q) :=
  fun s data tl o eof hq he hd => dropF_fits hs hf _ s data tl o eof (Nat.lt_succ_self _) hq he hd
theorem drop_run {x : List UInt8} {s : σ} {r : List UInt8} {ts : List (List UInt8)} {err : Option Nat} (h : Run Q s r ts err) : Run (dropQ x Q) s r (ts.filter (fun t => decide (t ≠ x))) err := by
  induction h with
  | @tok s r t s' r' ts err hq _ ih =>
    by_cases ht : t = x
    · subst ht
      have e1 : (t :: ts).filter (fun u => decide (u ≠ t)) = ts.filter (fun u => decide (u ≠ t)) := by simp
      rw [e1]
      generalize ts.filter (fun u => decide (u ≠ t)) = l at ih
      cases ih with
      | tok q1 q2 => exact .tok (.skip hq q1) q2
      | fail q1 => exact .fail (.skip hq q1)
      | fin q1 => exact .fin (.skip hq q1)
      | fin0 q1 => exact .fin0 (.skip hq q1)
      | stop q1 => exact .stop (.skip hq q1)
    · have e1 : (t :: ts).filter (fun u => decide (u ≠ x)) = t :: ts.filter (fun u => decide (u ≠ x)) := by simp [ht]
      rw [e1]
      exact .tok (.same hq (fun _ _ h => ht (by cases h; rfl)) (by simp)) ih
  | fail hq => exact .fail (.same hq (fun _ _ h => by cases h) (by simp))
  | @fin s r t hq =>
    by_cases ht : t = x
    · subst ht
      have e1 : [t].filter (fun u => decide (u ≠ t)) = [] := by simp
      rw [e1]
      exact .fin0 (.fin hq)
    · have e1 : [t].filter (fun u => decide (u ≠ x)) = [t] := by simp [ht]
      rw [e1]
      exact .fin (.same hq (fun _ _ h => by cases h) (by simpa using ht))
  | fin0 hq => exact .fin0 (.same hq (fun _ _ h => by cases h) (by simp))
  | stop hq => exact .stop (.same hq (fun _ _ h => by cases h) (by simp))
end
end Go.HE
