/- The split functions without layers: plain mathematics of their answers and outcomes. No condition. -/
import Derived.Test.YtkaomlklllinlaaDoorWordsP
import Derived.Test.YtkaomlklllinlaaDoorPartsP
import Derived.Test.YtkaomlklllinlaaDoorFieldsP
import Derived.Test.YtkaomlklllinlaaDoorFramesP
import Derived.Test.YtkaomlklllinlaaDoorBytes
set_option maxRecDepth 100000
set_option maxHeartbeats 1000000
namespace Go.HE

theorem bstep_ok : StepOk bstep := by
  refine ⟨fun s d e t hd ht => ?_, fun s d e hd => ?_, fun s d e c h => ?_⟩
  · unfold bstep at ht ⊢
    split at ht
    · cases ht
    · rename_i h0
      have hp := List.length_pos_iff.2 h0
      rw [if_neg h0]
      cases ht
      refine ⟨.inl ⟨rfl, by show (0 : Int) < 1; omega⟩, by show (0 : Int) ≤ 1; omega, by show (1 : Int) ≤ _; omega, ?_⟩
      rw [List.length_take]; omega
  · unfold bstep
    split
    · exact ⟨by show (-1 : Int) ≤ 0; omega, by show (0 : Int) ≤ _; omega⟩
    · exact ⟨by show (-1 : Int) ≤ 1; omega, by show (1 : Int) ≤ _; omega⟩
  · unfold bstep at h; split at h <;> cases h
theorem bfits : Fits bstep bq := by
  intro s data tl o eof hq he hd
  cases data with
  | nil =>
    have hd' : eof = true := by simpa using hd
    have := he hd'
    subst this hd'
    exact .stop rfl rfl rfl (Int.le_refl _) (Int.le_refl _) rfl hq
  | cons b d =>
    exact .tok [b] rfl rfl hq

def pout (x : List UInt8) (r : List UInt8) : Oc Unit := match findW x r with
  | some k => .tok (r.take k) () (r.drop (k + x.length))
  | none => .fin (some r)
def pq (x : List UInt8) : Unit → List UInt8 → Oc Unit → Prop := fun _ r o => o = pout x r
theorem pstep_ok {x : List UInt8} (hx : x ≠ []) : StepOk (pstep x) := by
  have hxp := List.length_pos_iff.2 hx
  refine ⟨fun s d e t hd ht => ?_, fun s d e hd => ?_, fun s d e c h => ?_⟩
  · unfold pstep at ht ⊢
    cases hf : findW x d with
    | some k =>
      have := (findW_some hx hf).1
      rw [hf] at ht
      simp only at ht ⊢
      cases ht
      refine ⟨.inl ⟨trivial, by omega⟩, by omega, by omega, ?_⟩
      rw [List.length_take]; omega
    | none =>
      rw [hf] at ht
      simp only at ht ⊢
      cases e with
      | false => rw [if_neg (by simp)] at ht; cases ht
      | true =>
        rw [if_pos rfl] at ht ⊢
        cases ht
        exact ⟨.inr rfl, by show (0 : Int) ≤ (d.length : Int); omega, Int.le_refl _, Nat.le_refl _⟩
  · unfold pstep
    cases hf : findW x d with
    | some k => have := (findW_some hx hf).1; simp only; omega
    | none => simp only; split <;> (simp only; omega)
  · unfold pstep at h
    split at h
    · cases h
    · split at h
      · cases h; exact .inl rfl
      · cases h
theorem pfits {x : List UInt8} (hx : x ≠ []) : Fits (pstep x) (pq x) := by
  intro s data tl o eof hq he hd
  obtain rfl : o = pout x (data ++ tl) := hq
  unfold pstep
  cases hf : findW x data with
  | some k =>
    have h1 := (findW_some hx hf).1
    refine .tok _ rfl rfl ?_
    unfold pout
    rw [findW_part hx hf]
    simp only
    rw [List.take_append_of_le_length (by omega), List.drop_append_of_le_length (by omega)]
    rfl
  | none =>
    simp only
    cases eof with
    | false =>
      rw [if_neg (by simp)]
      exact .more rfl rfl rfl (Int.le_refl _) (by show (0 : Int) ≤ (data.length : Int); omega) rfl
    | true =>
      have := he rfl
      subst this
      rw [if_pos rfl, List.append_nil]
      refine .fin rfl ?_
      unfold pout
      rw [hf]
theorem prun0 {x text : List UInt8} {ts : List (List UInt8)} (h : PartsOf x text ts) : Run (pq x) () text ts none := by
  induction h with
  | last hf => exact .fin (by show _ = pout x _; unfold pout; rw [hf])
  | cons hf _ ih => exact .tok (by show _ = pout x _; unfold pout; rw [hf]) ih

theorem FP.add_len {c : UInt8} {n : Nat} {x : FP} {k : Nat} (h : (∀ t m, x = .stop t m → t.length ≤ k) ∧ ∀ t, x = .over t → t.length ≤ k) : (∀ t m, x.add c n = .stop t m → t.length ≤ k + 1) ∧ ∀ t, x.add c n = .over t → t.length ≤ k + 1 := by
  cases x with
  | stop u j =>
    refine ⟨fun t m ht => ?_, fun t ht => (by cases ht)⟩
    cases ht
    have := h.1 u j rfl
    simp; omega
  | over u =>
    refine ⟨fun t m ht => (by cases ht), fun t ht => ?_⟩
    cases ht
    have := h.2 u rfl
    simp; omega
  | esc => exact ⟨fun t m ht => (by cases ht), fun t ht => (by cases ht)⟩
theorem fparse_len (dl es : UInt8) : ∀ r : List UInt8, (∀ t m, fparse dl es r = .stop t m → t.length ≤ r.length) ∧ ∀ t, fparse dl es r = .over t → t.length ≤ r.length
  | [] => ⟨fun t m h => (by simp [fparse] at h), fun t h => by simp [fparse] at h; subst h; simp⟩
  | [b] => by
    unfold fparse
    split
    · exact ⟨fun t m h => (by cases h), fun t h => (by cases h)⟩
    · split
      · exact ⟨fun t m h => (by cases h; simp), fun t h => (by cases h)⟩
      · exact ⟨fun t m h => (by cases h), fun t h => (by cases h; simp)⟩
  | b :: c :: r => by
    unfold fparse
    split
    · have := FP.add_len (c := c) (n := 2) (fparse_len dl es r)
      exact ⟨fun t m h => Nat.le_trans (this.1 t m h) (by simp), fun t h => Nat.le_trans (this.2 t h) (by simp)⟩
    · split
      · exact ⟨fun t m h => (by cases h; simp), fun t h => (by cases h)⟩
      · have := FP.add_len (c := b) (n := 1) (fparse_len dl es (c :: r))
        exact ⟨fun t m h => Nat.le_trans (this.1 t m h) (by simp), fun t h => Nat.le_trans (this.2 t h) (by simp)⟩
def eout (dl es : UInt8) (r : List UInt8) : Oc Unit := match fparse dl es r with
  | .stop t n => .tok t () (r.drop n)
  | .over t => .fin (some t)
  | .esc => .fail 7
def eq (dl es : UInt8) : Unit → List UInt8 → Oc Unit → Prop := fun _ r o => o = eout dl es r
theorem estep_ok {dl es : UInt8} : StepOk (estep dl es) := by
  refine ⟨fun s d e t hd ht => ?_, fun s d e hd => ?_, fun s d e c h => ?_⟩
  · unfold estep at ht ⊢
    have hl := fparse_len dl es d
    cases hf : fparse dl es d with
    | stop u n =>
      have := fparse_n dl es d u n hf
      have h2 := hl.1 u n hf
      rw [hf] at ht
      simp only at ht ⊢
      cases ht
      exact ⟨.inl ⟨trivial, by omega⟩, by omega, by omega, h2⟩
    | over u =>
      have h2 := hl.2 u hf
      rw [hf] at ht
      simp only at ht ⊢
      cases e with
      | false => rw [if_neg (by simp)] at ht; cases ht
      | true =>
        rw [if_pos rfl] at ht ⊢
        cases ht
        exact ⟨.inr rfl, by show (0 : Int) ≤ (d.length : Int); omega, Int.le_refl _, h2⟩
    | esc =>
      rw [hf] at ht
      simp only at ht
      split at ht <;> cases ht
  · unfold estep
    cases hf : fparse dl es d with
    | stop u n => have := fparse_n dl es d u n hf; simp only; omega
    | over u => simp only; split <;> (simp only; omega)
    | esc => simp only; split <;> (simp only; omega)
  · unfold estep at h
    split at h
    · cases h
    · split at h
      · cases h; exact .inl rfl
      · cases h
    · split at h
      · cases h; exact .inr rfl
      · cases h
theorem efits {dl es : UInt8} : Fits (estep dl es) (eq dl es) := by
  intro s data tl o eof hq he hd
  obtain rfl : o = eout dl es (data ++ tl) := hq
  unfold estep
  have hend : eof = true → eout dl es (data ++ tl) = eout dl es data := fun h => by rw [he h, List.append_nil]
  cases hf : fparse dl es data with
  | stop t n =>
    have h1 := fparse_n dl es data t n hf
    refine .tok _ rfl rfl ?_
    unfold eout
    rw [fparse_part dl es data tl t n hf]
    simp only
    rw [List.drop_append_of_le_length (by omega)]
    rfl
  | over t =>
    simp only
    cases eof with
    | false =>
      rw [if_neg (by simp)]
      exact .more rfl rfl rfl (Int.le_refl _) (by show (0 : Int) ≤ (data.length : Int); omega) rfl
    | true =>
      rw [if_pos rfl, hend rfl]
      refine .fin rfl ?_
      unfold eout
      rw [hf]
  | esc =>
    simp only
    cases eof with
    | false =>
      rw [if_neg (by simp)]
      exact .more rfl rfl rfl (Int.le_refl _) (by show (0 : Int) ≤ (data.length : Int); omega) rfl
    | true =>
      rw [if_pos rfl, hend rfl]
      refine .fail rfl rfl ?_
      unfold eout
      rw [hf]
theorem erun0 {dl es : UInt8} {text : List UInt8} {ts : List (List UInt8)} {e : Option Nat} (h : FieldsOf dl es text ts e) : Run (eq dl es) () text ts e := by
  induction h with
  | over hf => exact .fin (by show _ = eout dl es _; unfold eout; rw [hf])
  | esc hf => exact .fail (by show _ = eout dl es _; unfold eout; rw [hf])
  | cons hf _ ih => exact .tok (by show _ = eout dl es _; unfold eout; rw [hf]) ih

def fout (w : Nat) (r : List UInt8) : Oc Unit := if r = [] then .stop else if fneed w r ≤ r.length then .tok ((r.take (fneed w r)).drop w) () (r.drop (fneed w r)) else .fail 7
def fq (w : Nat) : Unit → List UInt8 → Oc Unit → Prop := fun _ r o => o = fout w r
theorem fneed_ge (w : Nat) (d : List UInt8) : w ≤ fneed w d := by unfold fneed; split <;> omega
theorem fneed_nil {w : Nat} (hw : 0 < w) : fneed w [] = w := by unfold fneed; rw [if_neg (by simp; omega)]
theorem fstep_ok {w : Nat} (hw : 0 < w) : StepOk (fstep w) := by
  refine ⟨fun s d e t hd ht => ?_, fun s d e hd => ?_, fun s d e c h => ?_⟩
  · unfold fstep at ht ⊢
    have h1 := fneed_ge w d
    split at ht
    · rename_i h2
      rw [if_pos h2]
      cases ht
      refine ⟨.inl ⟨rfl, by show (0 : Int) < (fneed w d : Int); omega⟩, by show (0 : Int) ≤ (fneed w d : Int); omega, by show (fneed w d : Int) ≤ _; omega, ?_⟩
      rw [List.length_drop, List.length_take]; omega
    · split at ht <;> cases ht
  · unfold fstep
    split
    · simp only; omega
    · split <;> (simp only; omega)
  · unfold fstep at h
    split at h
    · cases h
    · split at h
      · cases h; exact .inr rfl
      · cases h
theorem ffits {w : Nat} (hw : 0 < w) : Fits (fstep w) (fq w) := by
  intro s data tl o eof hq he hd
  obtain rfl : o = fout w (data ++ tl) := hq
  unfold fstep
  have h1 := fneed_ge w data
  by_cases hf : fneed w data ≤ data.length
  · rw [if_pos hf]
    have hne : data ++ tl ≠ [] := fun h => by
      have := congrArg List.length h
      simp at this
      rw [this.1] at hf h1
      simp at hf
      omega
    refine .tok _ rfl rfl ?_
    unfold fout
    rw [if_neg hne, fneed_prefix (by omega), if_pos (by rw [List.length_append]; omega), List.take_append_of_le_length hf, List.drop_append_of_le_length hf]
    rfl
  · rw [if_neg hf]
    cases eof with
    | false =>
      rw [if_neg (by simp)]
      exact .more rfl rfl rfl (Int.le_refl _) (by show (0 : Int) ≤ (data.length : Int); omega) rfl
    | true =>
      have := he rfl
      subst this
      rw [List.append_nil]
      by_cases h0 : data = []
      · subst h0
        rw [if_neg (by simp)]
        exact .stop rfl rfl rfl (Int.le_refl _) (Int.le_refl _) (by show Oc.stop = fout w []; unfold fout; rw [if_pos rfl]) (by unfold fout; rw [if_pos rfl])
      · rw [if_pos ⟨rfl, h0⟩]
        exact .fail rfl rfl (by unfold fout; rw [if_neg h0, if_neg hf])
theorem frun0 {w : Nat} (hw : 0 < w) {text : List UInt8} {ts : List (List UInt8)} {e : Option Nat} {m : Nat} (h : FramesOf w text ts e m) : Run (fq w) () text ts e := by
  induction h with
  | nil => exact .stop (by show _ = fout w []; unfold fout; rw [if_pos rfl])
  | @bad r h0 h1 =>
    refine .fail ?_
    show _ = fout w r
    unfold fout
    rw [if_neg h0, if_neg]
    unfold fneed
    split <;> omega
  | @cons hd t rest ts e m h1 h2 _ ih =>
    have hn : fneed w (hd ++ t ++ rest) = w + t.length := by
      have e0 : (hd ++ t ++ rest).take w = hd := by rw [List.append_assoc, List.take_append_of_le_length (by omega), List.take_of_length_le (by omega)]
      unfold fneed
      rw [if_pos (by simp; omega), e0, h2]
    have hne : hd ++ t ++ rest ≠ [] := fun h => by
      have := congrArg List.length h
      simp only [List.length_append, List.length_nil] at this
      omega
    refine .tok ?_ ih
    show _ = fout w _
    unfold fout
    rw [if_neg hne, hn, if_pos (by simp; omega)]
    have e1 : (hd ++ t ++ rest).take (w + t.length) = hd ++ t := by rw [List.take_append_of_le_length (by simp; omega), List.take_of_length_le (by simp; omega)]
    have e2 : (hd ++ t ++ rest).drop (w + t.length) = rest := by
      rw [List.drop_append_of_le_length (by simp; omega), List.drop_of_length_le (by simp; omega)]; rfl
    rw [e1, e2, List.drop_append_of_le_length (by omega), List.drop_of_length_le (by omega)]
    rfl

/-- Lines of a text. -/
theorem lrun_ex : ∀ (n : Nat) (r : List UInt8), r.length = n → ∃ ts, Run lq () r ts none ∧ ts.length ≤ r.length := by
  intro n
  induction n using Nat.strongRecOn with
  | _ n ih =>
    intro r hr
    cases hf : nlAt r with
    | some i =>
      have h1 := nl_lt hf
      obtain ⟨ts, h2, h3⟩ := ih (r.drop (i + 1)).length (by rw [List.length_drop]; omega) _ rfl
      refine ⟨_, .tok (by show _ = lout r; unfold lout; rw [hf]) h2, ?_⟩
      rw [List.length_drop] at h3
      simp only [List.length_cons]
      omega
    | none =>
      by_cases h0 : r = []
      · subst h0; exact ⟨[], .stop (rfl : lq () [] .stop), by simp⟩
      · have hp := List.length_pos_iff.2 h0
        have h1 : lq () r (.tok (dropC r) () []) := by show _ = lout r; unfold lout; rw [hf]; simp only; rw [if_neg h0]
        have h2 : lq () [] .stop := rfl
        exact ⟨[dropC r], .tok h1 (.stop h2), by simp; omega⟩

/-- A split function without layers: its kind, and what it is made of. -/
structure Bs where
  kind : Int
  n : Int
  x : List UInt8
  dl : UInt8
  es : UInt8
/-- The tokens of a text, and the error, without layers. -/
def BaseOf (sep : List UInt8 → List UInt8) (b : Bs) (text : List UInt8) (ts : List (List UInt8)) (err : Option Nat) : Prop :=
  if b.kind = 2 then Run lq () text ts err ∧ ts.length ≤ text.length
  else if b.kind = 3 then Run wq () text ts err ∧ ts.length ≤ text.length
  else if b.kind = 4 then PartsOf (sep b.x) text ts ∧ err = none
  else if b.kind = 5 then FieldsOf b.dl b.es text ts err
  else if b.kind = 6 then ∃ m, FramesOf (min (max b.n 1) 3).toNat text ts err m
  else ts = text.map (fun c => [c]) ∧ err = none
theorem base_ex {sep : List UInt8 → List UInt8} (hs : ∀ x, sep x ≠ []) (b : Bs) (text : List UInt8) : ∃ ts err, BaseOf sep b text ts err := by
  unfold BaseOf
  by_cases h2 : b.kind = 2
  · obtain ⟨ts, h⟩ := lrun_ex _ text rfl
    exact ⟨ts, none, by rw [if_pos h2]; exact h⟩
  by_cases h3 : b.kind = 3
  · obtain ⟨ts, h⟩ := wrun_ex _ text rfl
    exact ⟨ts, none, by rw [if_neg h2, if_pos h3]; exact h⟩
  by_cases h4 : b.kind = 4
  · obtain ⟨ts, h⟩ := parts_ex (hs b.x) _ text rfl
    exact ⟨ts, none, by rw [if_neg h2, if_neg h3, if_pos h4]; exact ⟨h, rfl⟩⟩
  by_cases h5 : b.kind = 5
  · obtain ⟨ts, e, h⟩ := fields_ex b.dl b.es _ text rfl
    exact ⟨ts, e, by rw [if_neg h2, if_neg h3, if_neg h4, if_pos h5]; exact h⟩
  by_cases h6 : b.kind = 6
  · obtain ⟨ts, e, m, h⟩ := frames_ex (min (max b.n 1) 3).toNat (by omega) _ text rfl
    exact ⟨ts, e, by rw [if_neg h2, if_neg h3, if_neg h4, if_neg h5, if_pos h6]; exact ⟨m, h⟩⟩
  · exact ⟨_, none, by rw [if_neg h2, if_neg h3, if_neg h4, if_neg h5, if_neg h6]; exact ⟨rfl, rfl⟩⟩
theorem run_err {σ : Type} {Q : σ → List UInt8 → Oc σ → Prop} (hq : ∀ s r c, Q s r (.fail c) → c = 7) {s : σ} {r : List UInt8} {ts : List (List UInt8)} {err : Option Nat} (h : Run Q s r ts err) : err = none ∨ err = some 7 := by
  induction h with
  | tok _ _ ih => exact ih
  | fail h => exact .inr (by rw [hq _ _ _ h])
  | fin _ => exact .inl rfl
  | fin0 _ => exact .inl rfl
  | stop _ => exact .inl rfl
theorem BaseOf.err {sep : List UInt8 → List UInt8} {b : Bs} {text : List UInt8} {ts : List (List UInt8)} {err : Option Nat} (h : BaseOf sep b text ts err) : err = none ∨ err = some 7 := by
  unfold BaseOf at h
  split at h
  · refine run_err (fun s r c hq => ?_) h.1
    unfold lq lout at hq
    split at hq
    · cases hq
    · split at hq <;> cases hq
  split at h
  · refine run_err (fun s r c hq => ?_) h.1
    unfold wq wout at hq
    split at hq
    · cases hq
    · split at hq <;> cases hq
  split at h
  · exact .inl h.2
  split at h
  · exact h.err
  split at h
  · obtain ⟨m, h⟩ := h
    exact h.err
  · exact .inl h.2
theorem BaseOf.len {sep : List UInt8 → List UInt8} (hs : ∀ x, sep x ≠ []) {b : Bs} {text : List UInt8} {ts : List (List UInt8)} {err : Option Nat} (h : BaseOf sep b text ts err) : ts.length ≤ text.length + 1 := by
  unfold BaseOf at h
  split at h
  · omega
  split at h
  · omega
  split at h
  · exact h.1.len (hs b.x)
  split at h
  · exact h.len
  split at h
  · obtain ⟨m, h⟩ := h
    have := h.len (by omega)
    omega
  · rw [h.1]; simp
end Go.HE
