/- The longest words that an automaton accepts: plain mathematics. No condition. -/
import Derived.Test.YtmiioacpejmndaaDoorAll
set_option maxRecDepth 100000
set_option maxHeartbeats 1000000
namespace Go.HE

/-- An automaton. -/
structure Au where
  classes : Int
  next : List (List Int)
  final : List Bool
def Au.cls (M : Au) (c : UInt8) : Nat := (((c.toNat : Nat) : Int) % max M.classes 1).toNat
/-- The next state; -1: there is none. -/
def Au.step (M : Au) (s : Int) (c : UInt8) : Int :=
  if s < 0 then -1 else match M.next[s.toNat]? with
  | none => -1
  | some row => (row[M.cls c]?).getD (-1)
def Au.acc (M : Au) (s : Int) : Bool := if s < 0 then false else (M.final[s.toNat]?).getD false
def Au.run (M : Au) (s : Int) (d : List UInt8) : Int := d.foldl M.step s
/-- The greatest n up to a bound at which the automaton accepts; 0: there is none. -/
def Au.best (M : Au) (d : List UInt8) : Nat → Nat
  | 0 => 0
  | n + 1 => if M.acc (M.run 0 (d.take (n + 1))) = true then n + 1 else M.best d n

theorem Au.run_dead (M : Au) {s : Int} (h : s < 0) : ∀ d : List UInt8, d ≠ [] → M.run s d = -1
  | [], h0 => absurd rfl h0
  | c :: d, _ => by
    show M.run (M.step s c) d = -1
    have : M.step s c = -1 := by unfold Au.step; rw [if_pos h]
    rw [this]
    by_cases hd : d = []
    · subst hd; rfl
    · exact M.run_dead (by omega) d hd
theorem Au.run_append (M : Au) (s : Int) (x y : List UInt8) : M.run s (x ++ y) = M.run (M.run s x) y := by simp [Au.run]
theorem Au.acc_dead (M : Au) {s : Int} (h : s < 0) : M.acc s = false := by unfold Au.acc; rw [if_pos h]
theorem Au.best_le (M : Au) (d : List UInt8) : ∀ n, M.best d n ≤ n
  | 0 => Nat.le_refl _
  | n + 1 => by
    unfold Au.best
    split
    · exact Nat.le_refl _
    · exact Nat.le_succ_of_le (M.best_le d n)
theorem Au.best_same (M : Au) {d e : List UInt8} : ∀ n, (∀ k, k ≤ n → d.take k = e.take k) → M.best d n = M.best e n
  | 0, _ => rfl
  | n + 1, h => by
    unfold Au.best
    rw [h (n + 1) (Nat.le_refl _), M.best_same n fun k hk => h k (by omega)]
theorem Au.best_dead (M : Au) {d : List UInt8} {i : Nat} (hi : i ≤ d.length) (h : M.run 0 (d.take i) < 0) : ∀ n, i ≤ n → n ≤ d.length → M.best d n = M.best d i := by
  intro n hn hl
  induction n with
  | zero => rw [show i = 0 by omega]
  | succ n ih =>
    by_cases hin : i = n + 1
    · rw [hin]
    · have hi' : i ≤ n := by omega
      rw [← ih hi' (by omega)]
      conv => lhs; unfold Au.best
      have e : d.take (n + 1) = d.take i ++ (d.drop i).take (n + 1 - i) := by
        have := List.take_add (l := d) (i := i) (j := n + 1 - i)
        rw [show i + (n + 1 - i) = n + 1 by omega] at this
        exact this
      rw [e, M.run_append, M.run_dead h _ (by
        intro h0
        have := congrArg List.length h0
        simp at this
        omega), M.acc_dead (by omega)]
      simp
theorem Au.best_zero (M : Au) (d : List UInt8) : M.best d 0 = 0 := rfl
/-- The longest word at the beginning of a text. -/
def Au.long (M : Au) (d : List UInt8) : Nat := M.best d d.length
theorem Au.long_le (M : Au) (d : List UInt8) : M.long d ≤ d.length := M.best_le d _

/-- The first place at which the automaton has no state: how far the split function looks. -/
def Au.dead (M : Au) (d : List UInt8) : Prop := ∃ i, i ≤ d.length ∧ M.run 0 (d.take i) < 0
theorem Au.long_part (M : Au) {d tl : List UInt8} (h : M.dead d) : M.long (d ++ tl) = M.long d := by
  obtain ⟨i, hi, hs⟩ := h
  have hs' : M.run 0 ((d ++ tl).take i) < 0 := by rw [List.take_append_of_le_length hi]; exact hs
  unfold Au.long
  rw [M.best_dead (d := d ++ tl) (by simp; omega) hs' _ (by simp; omega) (Nat.le_refl _), M.best_dead hi hs _ hi (Nat.le_refl _)]
  exact M.best_same i fun k hk => List.take_append_of_le_length (by omega)
theorem Au.dead_iff (M : Au) (d : List UInt8) : M.dead d ↔ M.run 0 d < 0 := by
  constructor
  · rintro ⟨i, hi, h⟩
    have e : d = d.take i ++ d.drop i := (List.take_append_drop i d).symm
    by_cases hd : d.drop i = []
    · rw [e, hd, List.append_nil]; exact h
    · rw [e, M.run_append, M.run_dead h _ hd]; omega
  · intro h
    exact ⟨d.length, Nat.le_refl _, by rw [List.take_length]; exact h⟩

/-- The words one after the other. -/
inductive MunchOf (M : Au) : List UInt8 → List (List UInt8) → Option Nat → Prop where
  | nil : MunchOf M [] [] none
  | bad {r : List UInt8} : r ≠ [] → M.long r = 0 → MunchOf M r [] (some 7)
  | cons {r : List UInt8} {ts : List (List UInt8)} {e : Option Nat} : 0 < M.long r → MunchOf M (r.drop (M.long r)) ts e → MunchOf M r (r.take (M.long r) :: ts) e
theorem munch_ex (M : Au) : ∀ (n : Nat) (r : List UInt8), r.length = n → ∃ ts e, MunchOf M r ts e := by
  intro n
  induction n using Nat.strongRecOn with
  | _ n ih =>
    intro r hr
    by_cases h0 : r = []
    · exact ⟨_, _, by rw [h0]; exact .nil⟩
    by_cases hl : M.long r = 0
    · exact ⟨_, _, .bad h0 hl⟩
    · have h1 := M.long_le r
      obtain ⟨ts, e, h⟩ := ih (r.drop (M.long r)).length (by simp; omega) _ rfl
      exact ⟨_, _, .cons (by omega) h⟩
section
variable {M : Au} {text : List UInt8} {ts : List (List UInt8)} {e : Option Nat}
theorem MunchOf.len (h : MunchOf M text ts e) : ts.length ≤ text.length := by
  induction h with
  | nil => simp
  | bad => simp
  | @cons r ts e h0 _ ih =>
    have := M.long_le r
    simp at ih ⊢; omega
theorem MunchOf.err (h : MunchOf M text ts e) : e = none ∨ e = some 7 := by
  induction h with
  | nil => exact .inl rfl
  | bad => exact .inr rfl
  | cons _ _ ih => exact ih
theorem MunchOf.flat (h : MunchOf M text ts e) : ∃ r, text = ts.flatten ++ r ∧ (e = none ↔ r = []) := by
  induction h with
  | nil => exact ⟨[], rfl, by simp⟩
  | @bad r h0 _ => exact ⟨r, rfl, by simp [h0]⟩
  | @cons r ts e h0 _ ih =>
    obtain ⟨s, h1, h2⟩ := ih
    refine ⟨s, ?_, h2⟩
    rw [List.flatten_cons, List.append_assoc, ← h1, List.take_append_drop]
end

/-- What the split function answers. -/
def mstep (M : Au) : Unit → List UInt8 → Bool → Ans Unit := fun _ d eof =>
  if 0 ≤ M.run 0 d ∧ eof = false then ⟨0, none, none, ()⟩
  else if 0 < M.long d then ⟨((M.long d : Nat) : Int), some (d.take (M.long d)), none, ()⟩
  else if d ≠ [] then ⟨0, none, some 7, ()⟩ else ⟨0, none, none, ()⟩
inductive Mq (M : Au) (L : Nat) : Unit → List UInt8 → Oc Unit → Prop where
  | stop : Mq M L () [] .stop
  | bad {r : List UInt8} : r ≠ [] → M.long r = 0 → r.length < L → Mq M L () r (.fail 7)
  | tok {r : List UInt8} : 0 < M.long r → r.length < L → Mq M L () r (.tok (r.take (M.long r)) () (r.drop (M.long r)))

theorem mgood {M : Au} {L : Nat} (h : 0 < L) : Good (mstep M) (Mq M L) L := by
  refine ⟨h, fun s data tl o eof hq he hd hL => ?_⟩
  generalize hr : data ++ tl = r at hq
  have hlen := congrArg List.length hr
  rw [List.length_append] at hlen
  have hl : r.length < L := by cases hq <;> first | assumption | simpa using h
  by_cases hm : 0 ≤ M.run 0 data ∧ eof = false
  · have hst : mstep M () data eof = ⟨0, none, none, ()⟩ := by unfold mstep; rw [if_pos hm]
    rw [hst, hm.2]
    simp only [Int.toNat_zero, List.drop_zero, hr]
    refine (?_ : if (0 : Int) < 0 then _ else _)
    rw [if_neg (by omega), if_neg (by omega), if_neg (by simp)]
    exact ⟨hq, .inl (by omega)⟩
  have hlong : M.long r = M.long data := by
    cases eof with
    | true =>
      have ht := he rfl
      subst ht
      rw [List.append_nil] at hr
      rw [hr]
    | false =>
      have hdead : M.run 0 data < 0 := by
        rcases Int.lt_or_le (M.run 0 data) 0 with h1 | h1
        · exact h1
        · exact absurd ⟨h1, rfl⟩ hm
      rw [← hr]
      exact M.long_part ((M.dead_iff data).2 hdead)
  have hle := M.long_le data
  by_cases hp : 0 < M.long data
  · have hst : mstep M () data eof = ⟨((M.long data : Nat) : Int), some (data.take (M.long data)), none, ()⟩ := by unfold mstep; rw [if_neg hm, if_pos hp]
    rw [hst]
    simp only
    rw [if_neg (by omega), if_neg (by omega)]
    refine ⟨by omega, ?_⟩
    rw [Int.toNat_natCast]
    cases hq with
    | stop => rw [← hlong] at hp; simp [Au.long, Au.best] at hp
    | bad _ h1 => omega
    | tok => rw [hlong, ← hr, List.take_append_of_le_length hle, List.drop_append_of_le_length hle]
  · by_cases hd0 : data = []
    · subst hd0
      have hd' : eof = true := by simpa using hd
      have ht := he hd'
      subst ht hd'
      have hst : mstep M () [] true = ⟨0, none, none, ()⟩ := by unfold mstep; rw [if_neg hm, if_neg hp, if_neg (by simp)]
      rw [hst]
      have hr0 : r = [] := by rw [← hr]; rfl
      subst hr0
      cases hq with
      | stop => simp
      | bad h0 => exact absurd rfl h0
      | tok h1 => simp [Au.long, Au.best] at h1
    · have hst : mstep M () data eof = ⟨0, none, some 7, ()⟩ := by unfold mstep; rw [if_neg hm, if_neg hp, if_pos hd0]
      rw [hst]
      refine (?_ : if (7 : Nat) = 6 then _ else _)
      rw [if_neg (by omega)]
      cases hq with
      | stop => exact absurd (List.append_eq_nil_iff.1 hr).1 hd0
      | bad => exact ⟨by omega, rfl⟩
      | tok h1 => omega
theorem mrun {M : Au} {L : Nat} {text : List UInt8} {ts : List (List UInt8)} {e : Option Nat} (h : MunchOf M text ts e) (hL : text.length < L) : Run (Mq M L) () text ts e := by
  induction h with
  | nil => exact .stop .stop
  | bad h0 h1 => exact .fail (.bad h0 h1 hL)
  | cons h0 _ ih => exact .tok (.tok h0 hL) (ih (by simp; omega))
end Go.HE
