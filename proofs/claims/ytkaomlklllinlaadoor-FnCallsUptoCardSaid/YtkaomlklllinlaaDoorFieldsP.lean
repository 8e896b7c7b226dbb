/- Fields with escapes: plain mathematics. No condition. -/
import Derived.Test.YtkaomlklllinlaaDoorAll
set_option maxRecDepth 100000
set_option maxHeartbeats 1000000
namespace Go.HE

/-- What stands at the beginning of a text: a field and so many bytes with its delimiter; a field that the text's end ends; a field that ends in an escape. -/
inductive FP where
  | stop (t : List UInt8) (n : Nat)
  | over (t : List UInt8)
  | esc
def FP.add (c : UInt8) (n : Nat) : FP → FP
  | .stop t k => .stop (c :: t) (k + n)
  | .over t => .over (c :: t)
  | .esc => .esc
def fparse (dl es : UInt8) : List UInt8 → FP
  | [] => .over []
  | [b] => if b = es then .esc else if b = dl then .stop [] 1 else .over [b]
  | b :: c :: r => if b = es then (fparse dl es r).add c 2 else if b = dl then .stop [] 1 else (fparse dl es (c :: r)).add b 1

theorem fparse_n (dl es : UInt8) : ∀ (r : List UInt8) (t : List UInt8) (n : Nat), fparse dl es r = .stop t n → 0 < n ∧ n ≤ r.length
  | [], t, n, h => by simp [fparse] at h
  | [b], t, n, h => by
    unfold fparse at h
    split at h
    · cases h
    · split at h
      · cases h; simp
      · cases h
  | b :: c :: r, t, n, h => by
    unfold fparse at h
    split at h
    · cases hf : fparse dl es r with
      | stop t' k =>
        rw [hf] at h
        cases h
        have := fparse_n dl es r t' k hf
        simp; omega
      | over t' => rw [hf] at h; cases h
      | esc => rw [hf] at h; cases h
    · split at h
      · cases h; simp
      · cases hf : fparse dl es (c :: r) with
        | stop t' k =>
          rw [hf] at h
          cases h
          have := fparse_n dl es (c :: r) t' k hf
          simp at this ⊢; omega
        | over t' => rw [hf] at h; cases h
        | esc => rw [hf] at h; cases h

/-- A beginning of a text: the same field, or none yet. -/
theorem fparse_part (dl es : UInt8) : ∀ (d tl : List UInt8) (t : List UInt8) (n : Nat), fparse dl es d = .stop t n → fparse dl es (d ++ tl) = .stop t n
  | [], tl, t, n, h => by simp [fparse] at h
  | [b], tl, t, n, h => by
    unfold fparse at h
    split at h
    · cases h
    · rename_i hb
      split at h
      · rename_i hd
        cases h
        cases tl with
        | nil =>
          show fparse dl es [b] = _
          unfold fparse
          rw [if_neg hb, if_pos hd]
        | cons c r =>
          show fparse dl es (b :: c :: r) = _
          unfold fparse
          rw [if_neg hb, if_pos hd]
      · cases h
  | b :: c :: r, tl, t, n, h => by
    unfold fparse at h
    show fparse dl es (b :: c :: (r ++ tl)) = _
    unfold fparse
    split at h
    · rename_i hb
      rw [if_pos hb]
      cases hf : fparse dl es r with
      | stop t' k => rw [fparse_part dl es r tl t' k hf]; rw [hf] at h; exact h
      | over t' => rw [hf] at h; cases h
      | esc => rw [hf] at h; cases h
    · rename_i hb
      rw [if_neg hb]
      split at h
      · rename_i hd
        rw [if_pos hd]; exact h
      · rename_i hd
        rw [if_neg hd]
        cases hf : fparse dl es (c :: r) with
        | stop t' k =>
          have := fparse_part dl es (c :: r) tl t' k hf
          rw [List.cons_append] at this
          rw [this]; rw [hf] at h; exact h
        | over t' => rw [hf] at h; cases h
        | esc => rw [hf] at h; cases h
theorem fparse_prefix (dl es : UInt8) : ∀ (d tl : List UInt8) (t : List UInt8) (n : Nat), fparse dl es (d ++ tl) = .stop t n → n ≤ d.length → fparse dl es d = .stop t n
  | [], tl, t, n, h, hn => by
    have := (fparse_n dl es _ t n h).1
    simp at hn; omega
  | [b], tl, t, n, h, hn => by
    cases tl with
    | nil => simpa using h
    | cons c r =>
      have h' : fparse dl es (b :: c :: r) = .stop t n := h
      unfold fparse at h' ⊢
      split at h'
      · cases hf : fparse dl es r with
        | stop t' k =>
          rw [hf] at h'
          cases h'
          have := (fparse_n dl es r t' k hf).1
          simp at hn
        | over t' => rw [hf] at h'; cases h'
        | esc => rw [hf] at h'; cases h'
      · rename_i hb
        rw [if_neg hb]
        split at h'
        · rename_i hd
          rw [if_pos hd]; exact h'
        · cases hf : fparse dl es (c :: r) with
          | stop t' k =>
            rw [hf] at h'
            cases h'
            have := (fparse_n dl es (c :: r) t' k hf).1
            simp at hn; omega
          | over t' => rw [hf] at h'; cases h'
          | esc => rw [hf] at h'; cases h'
  | b :: c :: r, tl, t, n, h, hn => by
    have h' : fparse dl es (b :: c :: (r ++ tl)) = .stop t n := h
    unfold fparse at h' ⊢
    split at h'
    · rename_i hb
      rw [if_pos hb]
      cases hf : fparse dl es (r ++ tl) with
      | stop t' k =>
        rw [hf] at h'
        cases h'
        rw [fparse_prefix dl es r tl t' k hf (by simpa using hn)]; rfl
      | over t' => rw [hf] at h'; cases h'
      | esc => rw [hf] at h'; cases h'
    · rename_i hb
      rw [if_neg hb]
      split at h'
      · rename_i hd
        rw [if_pos hd]; exact h'
      · rename_i hd
        rw [if_neg hd]
        cases hf : fparse dl es (c :: (r ++ tl)) with
        | stop t' k =>
          rw [hf] at h'
          cases h'
          rw [fparse_prefix dl es (c :: r) tl t' k hf (by simp at hn ⊢; omega)]; rfl
        | over t' => rw [hf] at h'; cases h'
        | esc => rw [hf] at h'; cases h'

inductive FieldsOf (dl es : UInt8) : List UInt8 → List (List UInt8) → Option Nat → Prop where
  | over {r t : List UInt8} : fparse dl es r = .over t → FieldsOf dl es r [t] none
  | esc {r : List UInt8} : fparse dl es r = .esc → FieldsOf dl es r [] (some 7)
  | cons {r t : List UInt8} {n : Nat} {ts : List (List UInt8)} {e : Option Nat} : fparse dl es r = .stop t n → FieldsOf dl es (r.drop n) ts e → FieldsOf dl es r (t :: ts) e

theorem fields_ex (dl es : UInt8) : ∀ (n : Nat) (r : List UInt8), r.length = n → ∃ ts e, FieldsOf dl es r ts e := by
  intro n
  induction n using Nat.strongRecOn with
  | _ n ih =>
    intro r hr
    cases hf : fparse dl es r with
    | over t => exact ⟨_, _, .over hf⟩
    | esc => exact ⟨_, _, .esc hf⟩
    | stop t k =>
      have h1 := fparse_n dl es r t k hf
      obtain ⟨ts, e, h⟩ := ih (r.drop k).length (by simp; omega) _ rfl
      exact ⟨_, _, .cons hf h⟩
section
variable {dl es : UInt8} {text : List UInt8} {ts : List (List UInt8)} {e : Option Nat}
theorem FieldsOf.len (h : FieldsOf dl es text ts e) : ts.length ≤ text.length + 1 := by
  induction h with
  | over => simp
  | esc => simp
  | cons hf _ ih =>
    have := fparse_n dl es _ _ _ hf
    simp at ih ⊢; omega
theorem FieldsOf.err (h : FieldsOf dl es text ts e) : e = none ∨ e = some 7 := by
  induction h with
  | over => exact .inl rfl
  | esc => exact .inr rfl
  | cons _ _ ih => exact ih
end

/-- What the split function answers. -/
def estep (dl es : UInt8) : Unit → List UInt8 → Bool → Ans Unit := fun _ d eof =>
  match fparse dl es d with
  | .stop t n => ⟨(n : Int), some t, none, ()⟩
  | .over t => if eof = true then ⟨d.length, some t, some 6, ()⟩ else ⟨0, none, none, ()⟩
  | .esc => if eof = true then ⟨0, none, some 7, ()⟩ else ⟨0, none, none, ()⟩
inductive Eq' (dl es : UInt8) (L : Nat) : Unit → List UInt8 → Oc Unit → Prop where
  | over {r t : List UInt8} : fparse dl es r = .over t → r.length < L → Eq' dl es L () r (.fin (some t))
  | esc {r : List UInt8} : fparse dl es r = .esc → r.length < L → Eq' dl es L () r (.fail 7)
  | tok {r t : List UInt8} {n : Nat} : fparse dl es r = .stop t n → r.length < L → Eq' dl es L () r (.tok t () (r.drop n))

theorem egood {dl es : UInt8} {L : Nat} (h : 0 < L) : Good (estep dl es) (Eq' dl es L) L := by
  refine ⟨h, fun s data tl o eof hq he hd hL => ?_⟩
  generalize hr : data ++ tl = r at hq
  have hlen := congrArg List.length hr
  rw [List.length_append] at hlen
  have hl : r.length < L := by cases hq <;> assumption
  have asks : (∀ t n, fparse dl es data ≠ .stop t n) → eof = false →
      (match (estep dl es () data eof).err with
      | some c => if c = 6 then o = .fin (estep dl es () data eof).tok else (c < 9 ∧ o = .fail c)
      | none => if (estep dl es () data eof).adv < 0 then o = .fail 3 else if (data.length : Int) < (estep dl es () data eof).adv then o = .fail 4
        else match (estep dl es () data eof).tok with
          | some t => 0 < (estep dl es () data eof).adv ∧ o = .tok t (estep dl es () data eof).st (data.drop (estep dl es () data eof).adv.toNat ++ tl)
          | none => if eof = true then o = .stop else Eq' dl es L (estep dl es () data eof).st (data.drop (estep dl es () data eof).adv.toNat ++ tl) o ∧ (data.length - (estep dl es () data eof).adv.toNat < L ∨ o = .fail 2)) := by
    intro h1 h2
    subst h2
    have hst : estep dl es () data false = ⟨0, none, none, ()⟩ := by
      unfold estep
      cases hf : fparse dl es data with
      | stop t n => exact absurd hf (h1 t n)
      | over => rfl
      | esc => rfl
    rw [hst]
    simp only [Int.toNat_zero, List.drop_zero, hr]
    refine (?_ : if (0 : Int) < 0 then _ else _)
    rw [if_neg (by omega), if_neg (by omega), if_neg (by simp)]
    exact ⟨hq, .inl (by omega)⟩
  cases hf : fparse dl es data with
  | stop t n =>
    have hn := fparse_n dl es data t n hf
    have hfr := fparse_part dl es data tl t n hf
    rw [hr] at hfr
    have hst : estep dl es () data eof = ⟨(n : Int), some t, none, ()⟩ := by unfold estep; rw [hf]
    rw [hst]
    simp only
    rw [if_neg (by omega), if_neg (by omega)]
    refine ⟨by omega, ?_⟩
    rw [Int.toNat_natCast]
    cases hq with
    | over hf' => rw [hfr] at hf'; cases hf'
    | esc hf' => rw [hfr] at hf'; cases hf'
    | tok hf' =>
      rw [hfr] at hf'
      cases hf'
      rw [← hr, List.drop_append_of_le_length hn.2]
  | over t =>
    cases eof with
    | false => exact asks (fun t n h => by rw [hf] at h; cases h) rfl
    | true =>
      have ht := he rfl
      subst ht
      rw [List.append_nil] at hr
      subst hr
      have hst : estep dl es () data true = ⟨data.length, some t, some 6, ()⟩ := by unfold estep; rw [hf]; rfl
      rw [hst]
      refine (?_ : if (6 : Nat) = 6 then _ else _)
      rw [if_pos rfl]
      cases hq with
      | over hf' => rw [hf] at hf'; cases hf'; rfl
      | esc hf' => rw [hf] at hf'; cases hf'
      | tok hf' => rw [hf] at hf'; cases hf'
  | esc =>
    cases eof with
    | false => exact asks (fun t n h => by rw [hf] at h; cases h) rfl
    | true =>
      have ht := he rfl
      subst ht
      rw [List.append_nil] at hr
      subst hr
      have hst : estep dl es () data true = ⟨0, none, some 7, ()⟩ := by unfold estep; rw [hf]; rfl
      rw [hst]
      simp only
      rw [if_neg (by simp)]
      cases hq with
      | over hf' => rw [hf] at hf'; cases hf'
      | esc hf' => exact ⟨by omega, rfl⟩
      | tok hf' => rw [hf] at hf'; cases hf'

theorem erun {dl es : UInt8} {L : Nat} {text : List UInt8} {ts : List (List UInt8)} {e : Option Nat} (h : FieldsOf dl es text ts e) (hL : text.length < L) : Run (Eq' dl es L) () text ts e := by
  induction h with
  | over hf => exact .fin (.over hf hL)
  | esc hf => exact .fail (.esc hf hL)
  | cons hf _ ih => exact .tok (.tok hf hL) (ih (by simp; omega))

/-! The reference's way. -/
def ffold (dl es : UInt8) : List UInt8 → List (List UInt8) → List UInt8 → Bool → List (List UInt8) × Option Nat
  | [], ds, f, esc => if esc = true then (ds, some 7) else (ds ++ [f], none)
  | b :: r, ds, f, true => ffold dl es r ds (f ++ [b]) false
  | b :: r, ds, f, false => if b = es then ffold dl es r ds f true else if b = dl then ffold dl es r (ds ++ [f]) [] false else ffold dl es r ds (f ++ [b]) false
theorem ffold_parse (dl es : UInt8) : ∀ (r : List UInt8) (ds : List (List UInt8)) (f : List UInt8), ffold dl es r ds f false =
    match fparse dl es r with
    | .stop t n => ffold dl es (r.drop n) (ds ++ [f ++ t]) [] false
    | .over t => (ds ++ [f ++ t], none)
    | .esc => (ds, some 7)
  | [], ds, f => by simp [ffold, fparse]
  | [b], ds, f => by
    unfold fparse ffold
    by_cases hb : b = es
    · simp [hb, ffold]
    · by_cases hd : b = dl
      · rw [if_neg hb, if_pos hd, if_neg hb, if_pos hd]; simp [ffold]
      · rw [if_neg hb, if_neg hd, if_neg hb, if_neg hd]; simp [ffold]
  | b :: c :: r, ds, f => by
    unfold fparse
    rw [ffold]
    by_cases hb : b = es
    · rw [if_pos hb, if_pos hb, ffold, ffold_parse dl es r ds (f ++ [c])]
      cases fparse dl es r <;> simp [FP.add, List.append_assoc]
    · rw [if_neg hb, if_neg hb]
      by_cases hd : b = dl
      · rw [if_pos hd, if_pos hd]; simp
      · rw [if_neg hd, if_neg hd, ffold_parse dl es (c :: r) ds (f ++ [b])]
        cases fparse dl es (c :: r) <;> simp [FP.add, List.append_assoc]
theorem ffold_of {dl es : UInt8} {text : List UInt8} {ts : List (List UInt8)} {e : Option Nat} (h : FieldsOf dl es text ts e) : ∀ ds, ffold dl es text ds [] false = (ds ++ ts, e) := by
  induction h with
  | over hf => intro ds; rw [ffold_parse, hf]; simp
  | esc hf => intro ds; rw [ffold_parse, hf]; simp
  | cons hf _ ih => intro ds; rw [ffold_parse, hf]; simp only; rw [ih]; simp
end Go.HE
