/- Frames: plain mathematics. No condition. -/
import Derived.Test.YtkaomlklllinlaaDoorAll
set_option maxRecDepth 100000
set_option maxHeartbeats 1000000
namespace Go.HE

theorem snoc_ind {α : Type} {C : List α → Prop} (nil : C []) (snoc : ∀ d b, C d → C (d ++ [b])) (l : List α) : C l := by
  rw [← List.reverse_reverse l]
  induction l.reverse with
  | nil => exact nil
  | cons x r ih => rw [List.reverse_cons]; exact snoc _ _ ih

/-- The number that bytes tell, the highest first. -/
def val (d : List UInt8) : Nat := d.foldl (fun n b => n * 256 + b.toNat) 0
theorem val_snoc (d : List UInt8) (b : UInt8) : val (d ++ [b]) = val d * 256 + b.toNat := by simp [val]
theorem val_lt : ∀ (d : List UInt8) (k : Nat), d.length = k → val d < 256 ^ k := by
  intro d
  induction d using snoc_ind with
  | nil => intro k h; simp at h; subst h; simp [val]
  | snoc d b ih =>
    intro k h
    rw [List.length_append, List.length_singleton] at h
    obtain ⟨k, rfl⟩ : ∃ j, k = j + 1 := ⟨k - 1, by omega⟩
    have := ih k (by omega)
    have hb := b.toNat_lt
    rw [val_snoc, Nat.pow_succ]
    omega

/-- The frames of a text, the error at its end, the room that they need. -/
inductive FramesOf (w : Nat) : List UInt8 → List (List UInt8) → Option Nat → Nat → Prop where
  | nil : FramesOf w [] [] none 0
  | bad {r : List UInt8} : r ≠ [] → (r.length < w ∨ r.length < w + val (r.take w)) → FramesOf w r [] (some 7) r.length
  | cons {h t rest : List UInt8} {ts : List (List UInt8)} {e : Option Nat} {m : Nat} : h.length = w → t.length = val h → FramesOf w rest ts e m → FramesOf w (h ++ t ++ rest) (t :: ts) e (max (w + t.length) m)

theorem frame_split {w : Nat} {r : List UInt8} (h : ¬ (r.length < w ∨ r.length < w + val (r.take w))) : ∃ hd t rest, r = hd ++ t ++ rest ∧ hd.length = w ∧ t.length = val hd ∧ hd = r.take w ∧ t = (r.drop w).take (val (r.take w)) ∧ rest = r.drop (w + val (r.take w)) := by
  refine ⟨r.take w, (r.drop w).take (val (r.take w)), r.drop (w + val (r.take w)), ?_, by simp; omega, by simp; omega, rfl, rfl, rfl⟩
  rw [List.append_assoc, ← List.drop_drop, List.take_append_drop, List.take_append_drop]

theorem frames_ex (w : Nat) (hw : 0 < w) : ∀ (k : Nat) (text : List UInt8), text.length = k → ∃ ts e m, FramesOf w text ts e m := by
  intro k
  induction k using Nat.strongRecOn with
  | _ k ih =>
    intro text hk
    by_cases h0 : text = []
    · exact ⟨[], none, 0, by rw [h0]; exact .nil⟩
    by_cases hb : text.length < w ∨ text.length < w + val (text.take w)
    · exact ⟨[], _, _, .bad h0 hb⟩
    · obtain ⟨hd, t, rest, rfl, h1, h2, _⟩ := frame_split hb
      obtain ⟨ts, e, m, h3⟩ := ih rest.length (by simp at hk; omega) rest rfl
      exact ⟨_, _, _, .cons h1 h2 h3⟩

theorem FramesOf.len {w : Nat} (hw : 0 < w) {text : List UInt8} {ts : List (List UInt8)} {e : Option Nat} {m : Nat} (h : FramesOf w text ts e m) : ts.length ≤ text.length := by
  induction h with
  | nil => simp
  | bad => simp
  | cons h1 _ _ ih => simp; omega
theorem FramesOf.room {w : Nat} {text : List UInt8} {ts : List (List UInt8)} {e : Option Nat} {m : Nat} (h : FramesOf w text ts e m) : m ≤ text.length := by
  induction h with
  | nil => simp
  | bad => simp
  | cons h1 _ _ ih => simp; omega
theorem FramesOf.tok_le {w : Nat} {text : List UInt8} {ts : List (List UInt8)} {e : Option Nat} {m : Nat} (h : FramesOf w text ts e m) : ∀ t ∈ ts, t.length ≤ text.length := by
  induction h with
  | nil => intro t ht; cases ht
  | bad => intro t ht; cases ht
  | cons h1 _ _ ih =>
    intro t ht
    rcases List.mem_cons.1 ht with rfl | ht
    · simp; omega
    · have := ih t ht
      simp; omega
theorem FramesOf.err {w : Nat} {text : List UInt8} {ts : List (List UInt8)} {e : Option Nat} {m : Nat} (h : FramesOf w text ts e m) : e = none ∨ e = some 7 := by
  induction h with
  | nil => exact .inl rfl
  | bad => exact .inr rfl
  | cons _ _ _ ih => exact ih

theorem FramesOf.empty {w : Nat} (hw : 0 < w) {ts : List (List UInt8)} {e : Option Nat} {m : Nat} (h : FramesOf w [] ts e m) : ts = [] ∧ e = none ∧ m = 0 := by
  generalize hr : ([] : List UInt8) = r at h
  cases h with
  | nil => exact ⟨rfl, rfl, rfl⟩
  | bad a1 => exact absurd hr.symm a1
  | cons a1 _ _ =>
    have := congrArg List.length hr
    simp at this
    omega

/-- What a split function of frames asks for. -/
def fneed (w : Nat) (d : List UInt8) : Nat := if w ≤ d.length then w + val (d.take w) else w
def fstep (w : Nat) : Unit → List UInt8 → Bool → Ans Unit := fun _ d eof =>
  if fneed w d ≤ d.length then ⟨fneed w d, some ((d.take (fneed w d)).drop w), none, ()⟩ else if eof = true ∧ d ≠ [] then ⟨0, none, some 7, ()⟩ else ⟨0, none, none, ()⟩
inductive Fq (w L : Nat) : Unit → List UInt8 → Oc Unit → Prop where
  | stop : Fq w L () [] .stop
  | bad {r : List UInt8} : r ≠ [] → (r.length < w ∨ r.length < w + val (r.take w)) → r.length < L → Fq w L () r (.fail 7)
  | tok {h t rest : List UInt8} : h.length = w → t.length = val h → w + t.length ≤ L → Fq w L () (h ++ t ++ rest) (.tok t () rest)
  | long {r : List UInt8} : L < r.length → L < fneed w r → Fq w L () r (.fail 2)

theorem fneed_prefix {w : Nat} {data tl : List UInt8} (h : w ≤ data.length) : fneed w (data ++ tl) = fneed w data := by
  unfold fneed
  rw [if_pos h, if_pos (by simp; omega), List.take_append_of_le_length h]

theorem fgood {w L : Nat} (hw : 0 < w) (h : 0 < L) : Good (fstep w) (Fq w L) L := by
  refine ⟨h, fun s data tl o eof hq he hd hL => ?_⟩
  generalize hr : data ++ tl = r at hq
  have more : fneed w data > data.length → (eof = false ∨ data = []) → fstep w () data eof = ⟨0, none, none, ()⟩ := fun h1 h2 => by
    unfold fstep
    rw [if_neg (by omega), if_neg (by rintro ⟨h3, h4⟩; rcases h2 with h2 | h2; rw [h2] at h3; cases h3; exact h4 h2)]
  have hdne : r ≠ [] → data ≠ [] := by
    intro h1 h0
    subst h0
    have hd' : eof = true := by simpa using hd
    rw [he hd'] at hr
    exact h1 (by rw [← hr]; rfl)
  have asks : fneed w data > data.length → eof = false → Fq w L () r o → (data.length < L ∨ o = .fail 2) →
      (match (fstep w () data eof).err with
      | some c => if c = 6 then o = .fin (fstep w () data eof).tok else (c < 9 ∧ o = .fail c)
      | none => if (fstep w () data eof).adv < 0 then o = .fail 3 else if (data.length : Int) < (fstep w () data eof).adv then o = .fail 4
        else match (fstep w () data eof).tok with
          | some t => 0 < (fstep w () data eof).adv ∧ o = .tok t (fstep w () data eof).st (data.drop (fstep w () data eof).adv.toNat ++ tl)
          | none => if eof = true then o = .stop else Fq w L (fstep w () data eof).st (data.drop (fstep w () data eof).adv.toNat ++ tl) o ∧ (data.length - (fstep w () data eof).adv.toNat < L ∨ o = .fail 2)) := by
    intro h1 h2 h3 h4
    rw [more h1 (.inl h2)]
    subst h2
    simp only [Int.toNat_zero, List.drop_zero, hr]
    refine (?_ : if (0 : Int) < 0 then _ else _)
    rw [if_neg (by omega), if_neg (by omega), if_neg (by simp)]
    exact ⟨h3, by simpa using h4⟩
  cases hq with
  | stop =>
    obtain ⟨rfl, rfl⟩ := List.append_eq_nil_iff.1 hr
    have hd' : eof = true := by simpa using hd
    subst hd'
    rw [more (by unfold fneed; rw [if_neg (by simp; omega)]; simpa using hw) (.inr rfl)]
    simp
  | @bad _ h0 hb hl =>
    have hne := hdne h0
    have hlen := congrArg List.length hr
    simp at hlen
    have hneed : fneed w data > data.length := by
      by_cases hwd : w ≤ data.length
      · have e : r.take w = data.take w := by rw [← hr, List.take_append_of_le_length hwd]
        rw [e] at hb
        unfold fneed
        rw [if_pos hwd]; omega
      · unfold fneed; rw [if_neg hwd]; omega
    cases eof with
    | false => exact asks hneed rfl (.bad h0 hb hl) (.inl (by omega))
    | true =>
      have hst : fstep w () data true = ⟨0, none, some 7, ()⟩ := by unfold fstep; rw [if_neg (by omega), if_pos ⟨rfl, hne⟩]
      rw [hst]
      simp
  | @tok hd' t rest h1 h2 h3 =>
    have hlen := congrArg List.length hr
    simp at hlen
    by_cases hwd : w ≤ data.length
    · have e : data.take w = hd' := by
        have := congrArg (List.take w) hr
        rw [List.take_append_of_le_length hwd, List.append_assoc, List.take_append_of_le_length (by omega)] at this
        rw [this]; exact List.take_of_length_le (by omega)
      have hn : fneed w data = w + t.length := by unfold fneed; rw [if_pos hwd, e, h2]
      by_cases hfull : w + t.length ≤ data.length
      · have e2 : data.take (w + t.length) = hd' ++ t := by
          have := congrArg (List.take (w + t.length)) hr
          rw [List.take_append_of_le_length hfull, List.take_append_of_le_length (by simp; omega)] at this
          rw [this]; exact List.take_of_length_le (by simp; omega)
        have e3 : data.drop (w + t.length) ++ tl = rest := by
          have := congrArg (List.drop (w + t.length)) hr
          rw [List.drop_append_of_le_length hfull] at this
          rw [this, List.drop_append_of_le_length (by simp; omega), List.drop_of_length_le (by simp; omega)]
          rfl
        have hst : fstep w () data eof = ⟨((w + t.length : Nat) : Int), some t, none, ()⟩ := by
          unfold fstep
          rw [if_pos (by omega), hn, e2]
          congr 2
          rw [List.drop_append_of_le_length (by omega), List.drop_of_length_le (by omega)]
          rfl
        rw [hst]
        simp only
        rw [if_neg (by omega), if_neg (by omega)]
        refine ⟨by omega, ?_⟩
        rw [Int.toNat_natCast, e3]
      · cases eof with
        | false => exact asks (by omega) rfl (.tok h1 h2 h3) (.inl (by omega))
        | true =>
          have ht := he rfl
          subst ht
          simp at hlen
          omega
    · cases eof with
      | false => exact asks (by unfold fneed; rw [if_neg hwd]; omega) rfl (.tok h1 h2 h3) (.inl (by omega))
      | true =>
        have ht := he rfl
        subst ht
        simp at hlen
        omega
  | @long _ h1 h2 =>
    have hlen := congrArg List.length hr
    simp at hlen
    have hneed : fneed w data > data.length := by
      by_cases hwd : w ≤ data.length
      · rw [← hr, fneed_prefix hwd] at h2; omega
      · unfold fneed; rw [if_neg hwd]; omega
    cases eof with
    | false => exact asks hneed rfl (.long h1 h2) (.inr rfl)
    | true =>
      have ht := he rfl
      subst ht
      simp at hlen
      omega

theorem frun {w L : Nat} {text : List UInt8} {ts : List (List UInt8)} {e : Option Nat} {m : Nat} (h : FramesOf w text ts e m) (hL : m < L) : Run (Fq w L) () text ts e := by
  induction h with
  | nil => exact .stop .stop
  | bad h0 hb => exact .fail (.bad h0 hb hL)
  | cons h1 h2 _ ih => exact .tok (.tok h1 h2 (by omega)) (ih (by omega))
end Go.HE
