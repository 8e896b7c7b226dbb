/- Parts of a text between separators: plain mathematics. No condition. -/
import Derived.Test.YtkaomlklllinlaaDoorAll
set_option maxRecDepth 100000
set_option maxHeartbeats 1000000
namespace Go.HE

/-- Where a word stands first; none: nowhere. -/
def findW (x : List UInt8) : List UInt8 → Option Nat
  | [] => none
  | b :: r => if x.isPrefixOf (b :: r) then some 0 else (findW x r).map (· + 1)

theorem findW_some {x : List UInt8} (hx : x ≠ []) : ∀ {r : List UInt8} {k : Nat}, findW x r = some k → k + x.length ≤ r.length ∧ (r.drop k).take x.length = x ∧ ∀ j, j < k → (r.drop j).take x.length ≠ x
  | [], k, h => by cases h
  | b :: r, k, h => by
    unfold findW at h
    split at h
    · rename_i hp
      cases h
      have hp' := List.isPrefixOf_iff_prefix.1 hp
      refine ⟨by simpa using hp'.length_le, ?_, fun j hj => by omega⟩
      exact (List.prefix_iff_eq_take.1 hp').symm
    · rename_i hp
      obtain ⟨j, hj, rfl⟩ := Option.map_eq_some_iff.1 h
      obtain ⟨h1, h2, h3⟩ := findW_some hx hj
      refine ⟨by simp; omega, by simpa using h2, fun i hi => ?_⟩
      cases i with
      | zero =>
        intro h4
        apply hp
        refine List.isPrefixOf_iff_prefix.2 (List.prefix_iff_eq_take.2 ?_)
        simpa using h4.symm
      | succ i => simpa using h3 i (by omega)
theorem findW_none {x : List UInt8} (hx : x ≠ []) : ∀ {r : List UInt8}, findW x r = none → ∀ j, (r.drop j).take x.length ≠ x
  | [], _, j => by simpa using hx
  | b :: r, h, j => by
    unfold findW at h
    split at h
    · cases h
    · rename_i hp
      have h1 : findW x r = none := by simpa using h
      cases j with
      | zero =>
        intro h4
        apply hp
        refine List.isPrefixOf_iff_prefix.2 (List.prefix_iff_eq_take.2 ?_)
        simpa using h4.symm
      | succ j => simpa using findW_none hx h1 j
theorem findW_eq {x r : List UInt8} {k : Nat} (hx : x ≠ []) (h1 : (r.drop k).take x.length = x) (h2 : ∀ j, j < k → (r.drop j).take x.length ≠ x) : findW x r = some k := by
  cases hf : findW x r with
  | none => exact absurd h1 (findW_none hx hf k)
  | some j =>
    obtain ⟨_, a2, a3⟩ := findW_some hx hf
    rcases Nat.lt_trichotomy j k with h | h | h
    · exact absurd a2 (h2 j h)
    · rw [h]
    · exact absurd h1 (a3 k h)
theorem findW_nowhere {x r : List UInt8} (h : ∀ j, (r.drop j).take x.length ≠ x) (hx : x ≠ []) : findW x r = none := by
  cases hf : findW x r with
  | none => rfl
  | some j => exact absurd (findW_some hx hf).2.1 (h j)

/-- The parts of a text. -/
inductive PartsOf (x : List UInt8) : List UInt8 → List (List UInt8) → Prop where
  | last {r : List UInt8} : findW x r = none → PartsOf x r [r]
  | cons {r : List UInt8} {k : Nat} {ts : List (List UInt8)} : findW x r = some k → PartsOf x (r.drop (k + x.length)) ts → PartsOf x r (r.take k :: ts)

theorem parts_ex {x : List UInt8} (hx : x ≠ []) : ∀ (n : Nat) (r : List UInt8), r.length = n → ∃ ts, PartsOf x r ts := by
  intro n
  induction n using Nat.strongRecOn with
  | _ n ih =>
    intro r hr
    cases hf : findW x r with
    | none => exact ⟨_, .last hf⟩
    | some k =>
      have h1 := (findW_some hx hf).1
      have h2 := List.length_pos_iff.2 hx
      obtain ⟨ts, h⟩ := ih (r.drop (k + x.length)).length (by simp; omega) _ rfl
      exact ⟨_, .cons hf h⟩
section
variable {x : List UInt8} {text : List UInt8} {ts : List (List UInt8)}
theorem PartsOf.pos (h : PartsOf x text ts) : 0 < ts.length := by cases h <;> simp
theorem PartsOf.len (hx : x ≠ []) (h : PartsOf x text ts) : ts.length ≤ text.length + 1 := by
  induction h with
  | last => simp
  | @cons r k ts hf _ ih =>
    have h1 := (findW_some hx hf).1
    have h2 := List.length_pos_iff.2 hx
    simp at ih ⊢
    omega
theorem PartsOf.tok_le (h : PartsOf x text ts) : ∀ t ∈ ts, t.length ≤ text.length := by
  induction h with
  | last => intro t ht; have : t = _ := List.mem_singleton.1 ht; rw [this]; exact Nat.le_refl _
  | @cons r k ts hf _ ih =>
    intro t ht
    rcases List.mem_cons.1 ht with rfl | ht
    · simp; omega
    · have := ih t ht
      simp at this
      omega
theorem PartsOf.uniq {us : List (List UInt8)} (h : PartsOf x text ts) (h2 : PartsOf x text us) : ts = us := by
  induction h generalizing us with
  | last hf =>
    cases h2 with
    | last => rfl
    | cons hf' => rw [hf] at hf'; cases hf'
  | cons hf _ ih =>
    cases h2 with
    | last hf' => rw [hf] at hf'; cases hf'
    | cons hf' h3 =>
      rw [hf] at hf'
      cases hf'
      rw [ih h3]
end

/-- What the split function answers. -/
def pstep (x : List UInt8) : Unit → List UInt8 → Bool → Ans Unit := fun _ d eof =>
  match findW x d with
  | some k => ⟨((k + x.length : Nat) : Int), some (d.take k), none, ()⟩
  | none => if eof = true then ⟨d.length, some d, some 6, ()⟩ else ⟨0, none, none, ()⟩
inductive Pq (x : List UInt8) (L : Nat) : Unit → List UInt8 → Oc Unit → Prop where
  | last {r : List UInt8} : findW x r = none → r.length < L → Pq x L () r (.fin (some r))
  | tok {r : List UInt8} {k : Nat} : findW x r = some k → k + x.length ≤ L → Pq x L () r (.tok (r.take k) () (r.drop (k + x.length)))
  | long {r : List UInt8} : L < r.length → (∀ k, findW x r = some k → L < k) → Pq x L () r (.fail 2)

theorem findW_prefix {x data tl : List UInt8} (hx : x ≠ []) {k : Nat} (h : findW x (data ++ tl) = some k) (hk : k + x.length ≤ data.length) : findW x data = some k := by
  obtain ⟨h1, h2, h3⟩ := findW_some hx h
  have key : ∀ j, j + x.length ≤ data.length → ((data ++ tl).drop j).take x.length = (data.drop j).take x.length := fun j hj => by
    rw [List.drop_append_of_le_length (by omega), List.take_append_of_le_length (by simp; omega)]
  refine findW_eq hx (by rw [← key k hk]; exact h2) fun j hj => ?_
  rw [← key j (by omega)]
  exact h3 j hj
theorem findW_part {x data tl : List UInt8} (hx : x ≠ []) {k : Nat} (h : findW x data = some k) : findW x (data ++ tl) = some k := by
  obtain ⟨h1, h2, h3⟩ := findW_some hx h
  have key : ∀ j, j + x.length ≤ data.length → ((data ++ tl).drop j).take x.length = (data.drop j).take x.length := fun j hj => by
    rw [List.drop_append_of_le_length (by omega), List.take_append_of_le_length (by simp; omega)]
  refine findW_eq hx (by rw [key k h1]; exact h2) fun j hj => ?_
  rw [key j (by omega)]
  exact h3 j hj

theorem pgood {x : List UInt8} {L : Nat} (hx : x ≠ []) (h : 0 < L) : Good (pstep x) (Pq x L) L := by
  refine ⟨h, fun s data tl o eof hq he hd hL => ?_⟩
  have hxl := List.length_pos_iff.2 hx
  generalize hr : data ++ tl = r at hq
  have hlen := congrArg List.length hr
  rw [List.length_append] at hlen
  have asks : findW x data = none → eof = false → Pq x L () r o → (data.length < L ∨ o = .fail 2) →
      (match (pstep x () data eof).err with
      | some c => if c = 6 then o = .fin (pstep x () data eof).tok else (c < 9 ∧ o = .fail c)
      | none => if (pstep x () data eof).adv < 0 then o = .fail 3 else if (data.length : Int) < (pstep x () data eof).adv then o = .fail 4
        else match (pstep x () data eof).tok with
          | some t => 0 < (pstep x () data eof).adv ∧ o = .tok t (pstep x () data eof).st (data.drop (pstep x () data eof).adv.toNat ++ tl)
          | none => if eof = true then o = .stop else Pq x L (pstep x () data eof).st (data.drop (pstep x () data eof).adv.toNat ++ tl) o ∧ (data.length - (pstep x () data eof).adv.toNat < L ∨ o = .fail 2)) := by
    intro h1 h2 h3 h4
    subst h2
    have hst : pstep x () data false = ⟨0, none, none, ()⟩ := by unfold pstep; rw [h1]; rfl
    rw [hst]
    simp only [Int.toNat_zero, List.drop_zero, hr]
    refine (?_ : if (0 : Int) < 0 then _ else _)
    rw [if_neg (by omega), if_neg (by omega), if_neg (by simp)]
    exact ⟨h3, by simpa using h4⟩
  cases hq with
  | last hf hl =>
    have hfd : findW x data = none := by
      cases hfd : findW x data with
      | none => rfl
      | some k => rw [← hr, findW_part hx hfd] at hf; cases hf
    cases eof with
    | false => exact asks hfd rfl (.last hf hl) (.inl (by omega))
    | true =>
      have ht := he rfl
      subst ht
      rw [List.append_nil] at hr
      subst hr
      have hst : pstep x () data true = ⟨data.length, some data, some 6, ()⟩ := by unfold pstep; rw [hfd]; rfl
      rw [hst]
      simp
  | @tok _ k hf hk =>
    by_cases hfull : k + x.length ≤ data.length
    · have hfd := findW_prefix hx (hr ▸ hf) hfull
      have hst : pstep x () data eof = ⟨((k + x.length : Nat) : Int), some (data.take k), none, ()⟩ := by unfold pstep; rw [hfd]
      rw [hst]
      simp only
      rw [if_neg (by omega), if_neg (by omega)]
      refine ⟨by omega, ?_⟩
      rw [Int.toNat_natCast, ← hr, List.take_append_of_le_length (by omega), List.drop_append_of_le_length hfull]
    · have hfd : findW x data = none := by
        cases hfd : findW x data with
        | none => rfl
        | some j =>
          have h1 := (findW_some hx hfd).1
          rw [← hr, findW_part hx hfd] at hf
          cases hf
          omega
      cases eof with
      | false => exact asks hfd rfl (.tok hf hk) (.inl (by omega))
      | true =>
        have ht := he rfl
        subst ht
        have h1 := (findW_some hx hf).1
        simp at hlen
        omega
  | long h1 h2 =>
    have hfd : findW x data = none := by
      cases hfd : findW x data with
      | none => rfl
      | some j =>
        have h3 := (findW_some hx hfd).1
        have h4 := h2 j (by rw [← hr]; exact findW_part hx hfd)
        omega
    cases eof with
    | false => exact asks hfd rfl (.long h1 h2) (.inr rfl)
    | true =>
      have ht := he rfl
      subst ht
      simp at hlen
      omega

section
variable {x : List UInt8} {text : List UInt8} {ts : List (List UInt8)} {L : Nat}
theorem prun (h : PartsOf x text ts) (hL : ∀ t ∈ ts, t.length + x.length < L) : Run (Pq x L) () text ts none := by
  induction h with
  | @last r hf => exact .fin (.last hf (by have := hL r (by simp); omega))
  | @cons r k ts hf _ ih =>
    refine .tok (.tok hf ?_) (ih fun t ht => hL t (List.mem_cons_of_mem _ ht))
    have := hL _ List.mem_cons_self
    have h1 : k ≤ r.length := by
      cases hx : x with
      | nil =>
        subst hx
        cases r with
        | nil => cases hf
        | cons b r => simp [findW] at hf; omega
      | cons y ys => have := (findW_some (x := x) (by rw [hx]; simp) hf).1; omega
    rw [List.length_take, Nat.min_eq_left h1] at this
    omega
/-- A part that is too long. -/
theorem prun_long (hx : x ≠ []) : ∀ {us vs : List (List UInt8)} {t text : List UInt8}, PartsOf x text (us ++ t :: vs) → (∀ u ∈ us, u.length + x.length < L) → L < t.length → Run (Pq x L) () text us (some 2)
  | [], vs, t, text, h, _, ht => by
    refine .fail (.long ?_ fun k hk => ?_)
    · have := h.tok_le t (by simp); omega
    · cases h with
      | last hf => rw [hf] at hk; cases hk
      | cons hf =>
        rw [hf] at hk
        cases hk
        simp at ht; omega
  | u :: us, vs, t, text, h, hL, ht => by
    generalize hl : u :: us ++ t :: vs = l at h
    cases h with
    | last hf =>
      have := congrArg List.length hl
      simp at this
    | @cons _ k ts hf hr =>
      simp only [List.cons_append, List.cons.injEq] at hl
      obtain ⟨rfl, rfl⟩ := hl
      refine .tok (.tok hf ?_) (prun_long hx hr (fun a ha => hL a (List.mem_cons_of_mem _ ha)) ht)
      have h1 := hL _ List.mem_cons_self
      have h2 := (findW_some hx hf).1
      rw [List.length_take, Nat.min_eq_left (by omega)] at h1
      omega
end

/-! The parts joined, and told again. -/
theorem findW_split {x : List UInt8} (hx : x ≠ []) {r : List UInt8} {k : Nat} (h : findW x r = some k) : r = r.take k ++ (x ++ r.drop (k + x.length)) := by
  obtain ⟨_, h2, _⟩ := findW_some hx h
  rw [← List.drop_drop]
  conv => lhs; rw [← List.take_append_drop k r, ← List.take_append_drop x.length (r.drop k), h2]
theorem first_of {x : List UInt8} {c : UInt8} (hx : x.head? = some c) {t : List UInt8} (ht : c ∉ t) (rest : List UInt8) : ∀ j, j < t.length → ((t ++ rest).drop j).take x.length ≠ x := by
  intro j hj h
  cases x with
  | nil => cases hx
  | cons y ys =>
    cases hx
    rw [List.drop_append_of_le_length (by omega), List.drop_eq_getElem_cons hj] at h
    simp only [List.cons_append, List.length_cons, List.take_succ_cons, List.cons.injEq] at h
    exact ht (h.1 ▸ List.getElem_mem hj)
theorem findW_here {x : List UInt8} {c : UInt8} (hx : x.head? = some c) {t : List UInt8} (ht : c ∉ t) (rest : List UInt8) : findW x (t ++ (x ++ rest)) = some t.length := by
  refine findW_eq (by intro h; rw [h] at hx; cases hx) ?_ (first_of hx ht _)
  rw [List.drop_append_of_le_length (Nat.le_refl _), List.drop_of_length_le (Nat.le_refl _), List.nil_append, List.take_append_of_le_length (Nat.le_refl _), List.take_of_length_le (Nat.le_refl _)]
theorem findW_no {x : List UInt8} {c : UInt8} (hx : x.head? = some c) {t : List UInt8} (ht : c ∉ t) : findW x t = none := by
  have hne : x ≠ [] := by intro h; rw [h] at hx; cases hx
  refine findW_nowhere (fun j h => ?_) hne
  by_cases hj : j < t.length
  · have := first_of hx ht [] j hj
    rw [List.append_nil] at this
    exact this h
  · rw [List.drop_of_length_le (by omega)] at h
    simp at h
    exact hne h
theorem PartsOf.join {x : List UInt8} (hx : x ≠ []) {text : List UInt8} {ts : List (List UInt8)} (h : PartsOf x text ts) : ts ≠ [] ∧ (match ts with | [] => ([] : List UInt8) | t :: r => t ++ (r.map (x ++ ·)).flatten) = text := by
  induction h with
  | last => simp
  | @cons r k ts hf h2 ih =>
    refine ⟨by simp, ?_⟩
    obtain ⟨h3, h4⟩ := ih
    cases ts with
    | nil => exact absurd rfl h3
    | cons t us =>
      simp only [List.map_cons, List.flatten_cons] at h4 ⊢
      rw [List.append_assoc, h4]
      exact (findW_split hx hf).symm
theorem parts_again {x : List UInt8} {c : UInt8} (hx : x.head? = some c) : ∀ {t : List UInt8} {r : List (List UInt8)}, c ∉ t → (∀ u ∈ r, c ∉ u) → PartsOf x (t ++ (r.map (x ++ ·)).flatten) (t :: r)
  | t, [], ht, _ => by
    have := PartsOf.last (findW_no hx ht)
    simpa using this
  | t, u :: r, ht, hr => by
    have ih := parts_again hx (hr u List.mem_cons_self) (fun v hv => hr v (List.mem_cons_of_mem _ hv))
    have e : t ++ ((u :: r).map (x ++ ·)).flatten = t ++ (x ++ (u ++ (r.map (x ++ ·)).flatten)) := by simp
    rw [e]
    have hf := findW_here hx ht (u ++ (r.map (x ++ ·)).flatten)
    have e1 : (t ++ (x ++ (u ++ (r.map (x ++ ·)).flatten))).take t.length = t := by rw [List.take_append_of_le_length (Nat.le_refl _), List.take_of_length_le (Nat.le_refl _)]
    have e2 : (t ++ (x ++ (u ++ (r.map (x ++ ·)).flatten))).drop (t.length + x.length) = u ++ (r.map (x ++ ·)).flatten := by
      rw [← List.append_assoc, List.drop_append_of_le_length (by simp), List.drop_of_length_le (by simp)]
      rfl
    have := PartsOf.cons hf (by rw [e2]; exact ih)
    rw [e1] at this
    exact this
theorem findW_one {c : UInt8} {a : List UInt8} (h : findW [c] a = none) : c ∉ a := by
  intro hc
  obtain ⟨i, hi⟩ := List.getElem?_of_mem hc
  have hlt := (List.getElem?_eq_some_iff.1 hi).1
  apply findW_none (by simp) h i
  rw [List.drop_eq_getElem_cons hlt]
  have : a[i] = c := by rw [List.getElem?_eq_getElem hlt] at hi; exact Option.some.inj hi
  simp [this]
theorem parts_concat {c : UInt8} {a b : List UInt8} {us vs : List (List UInt8)} (h1 : PartsOf [c] a us) (h2 : PartsOf [c] b vs) : PartsOf [c] (a ++ ([c] ++ b)) (us ++ vs) := by
  induction h1 with
  | @last r hf =>
    have hn := findW_one hf
    have hh := findW_here (x := [c]) (c := c) rfl hn b
    have e1 : (r ++ ([c] ++ b)).take r.length = r := by rw [List.take_append_of_le_length (Nat.le_refl _), List.take_of_length_le (Nat.le_refl _)]
    have e2 : (r ++ ([c] ++ b)).drop (r.length + [c].length) = b := by
      rw [← List.append_assoc, List.drop_append_of_le_length (by simp), List.drop_of_length_le (by simp)]
      rfl
    have := PartsOf.cons hh (by rw [e2]; exact h2)
    rw [e1] at this
    exact this
  | @cons r k ts hf _ ih =>
    have h3 := (findW_some (by simp) hf).1
    have hh : findW [c] (r ++ ([c] ++ b)) = some k := findW_part (by simp) hf
    have e1 : (r ++ ([c] ++ b)).take k = r.take k := List.take_append_of_le_length (by omega)
    have e2 : (r ++ ([c] ++ b)).drop (k + [c].length) = r.drop (k + [c].length) ++ ([c] ++ b) := List.drop_append_of_le_length h3
    have := PartsOf.cons hh (by rw [e2]; exact ih)
    rw [e1] at this
    exact this
end Go.HE
