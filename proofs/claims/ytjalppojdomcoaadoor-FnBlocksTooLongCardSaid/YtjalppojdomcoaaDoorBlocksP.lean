/- Blocks of bytes: plain mathematics. No condition. -/
import Derived.Test.YtjalppojdomcoaaDoorAll
set_option maxRecDepth 100000
set_option maxHeartbeats 1000000
namespace Go.HE

inductive BlocksOf (n : Nat) : List UInt8 → List (List UInt8) → Prop where
  | nil : BlocksOf n [] []
  | last {r : List UInt8} : r ≠ [] → r.length < n → BlocksOf n r [r]
  | cons {h rest : List UInt8} {ts : List (List UInt8)} : h.length = n → BlocksOf n rest ts → BlocksOf n (h ++ rest) (h :: ts)

section
variable {n : Nat} {text : List UInt8} {ts : List (List UInt8)}
theorem BlocksOf.one {x : List UInt8} (h0 : x ≠ []) (h : x.length ≤ n) : BlocksOf n x [x] := by
  by_cases hn : x.length = n
  · have := BlocksOf.cons hn (BlocksOf.nil (n := n))
    simpa using this
  · exact .last h0 (by omega)
theorem BlocksOf.flat (h : BlocksOf n text ts) : ts.flatten = text := by
  induction h with
  | nil => rfl
  | last => simp
  | cons _ _ ih => simp [ih]
theorem BlocksOf.tok_le (h : BlocksOf n text ts) {t : List UInt8} (ht : t ∈ ts) : t.length ≤ text.length := by
  have := (List.sublist_flatten_of_mem ht).length_le
  rw [h.flat] at this
  exact this
theorem BlocksOf.bounds (hn : 0 < n) (h : BlocksOf n text ts) : ∀ t ∈ ts, 0 < t.length ∧ t.length ≤ n := by
  induction h with
  | nil => intro t ht; cases ht
  | @last r h0 h1 =>
    intro t ht
    have : t = r := by simpa using ht
    subst this
    exact ⟨List.length_pos_iff.2 h0, by omega⟩
  | cons h1 _ ih =>
    intro t ht
    rcases List.mem_cons.1 ht with rfl | ht
    · omega
    · exact ih t ht
theorem BlocksOf.len (hn : 0 < n) (h : BlocksOf n text ts) : ts.length ≤ text.length := by
  induction h with
  | nil => simp
  | last h0 _ => have := List.length_pos_iff.2 h0; simp; omega
  | cons _ _ ih => simp; omega
theorem BlocksOf.full (h : BlocksOf n text ts) : ∀ i, i + 1 < ts.length → ∀ t, ts[i]? = some t → t.length = n := by
  induction h with
  | nil => intro i hi; simp at hi
  | last => intro i hi; simp at hi
  | @cons hd rest ts h1 _ ih =>
    intro i hi t ht
    cases i with
    | zero =>
      have : hd = t := by simpa using ht
      subst this; exact h1
    | succ i => exact ih i (by simpa using hi) t (by simpa using ht)
theorem BlocksOf.count (hn : 0 < n) (h : BlocksOf n text ts) : ts.length = if text.length % n = 0 then text.length / n else text.length / n + 1 := by
  induction h with
  | nil => simp
  | @last r h0 h1 =>
    have hp := List.length_pos_iff.2 h0
    rw [Nat.mod_eq_of_lt h1, if_neg (by omega), Nat.div_eq_of_lt h1]
    rfl
  | @cons hd rest ts h1 _ ih =>
    rw [List.length_cons, ih, List.length_append, h1, Nat.add_mod_left, Nat.add_div_left _ hn]
    split <;> rfl

theorem BlocksOf.snoc (hn : 0 < n) (c : UInt8) (h : BlocksOf n text ts) :
    (text.length % n = 0 → BlocksOf n (text ++ [c]) (ts ++ [[c]])) ∧ (text.length % n ≠ 0 → ∃ ts0 u, ts = ts0 ++ [u] ∧ BlocksOf n (text ++ [c]) (ts0 ++ [u ++ [c]])) := by
  induction h with
  | nil => exact ⟨fun _ => BlocksOf.one (by simp) (by simp; omega), fun h => by simp at h⟩
  | @last r h0 h1 =>
    have hp := List.length_pos_iff.2 h0
    refine ⟨fun h => ?_, fun _ => ⟨[], r, rfl, BlocksOf.one (by simp) (by simp; omega)⟩⟩
    rw [Nat.mod_eq_of_lt h1] at h
    omega
  | @cons hd rest ts h1 _ ih =>
    rw [List.length_append, h1, Nat.add_mod_left, List.append_assoc]
    refine ⟨fun h => .cons h1 (ih.1 h), fun h => ?_⟩
    obtain ⟨ts0, u, rfl, h2⟩ := ih.2 h
    exact ⟨hd :: ts0, u, rfl, .cons h1 h2⟩

theorem blocks_ex (hn : 0 < n) : ∀ text, ∃ ts, BlocksOf n text ts := by
  have : ∀ (k : Nat) (text : List UInt8), text.length = k → ∃ ts, BlocksOf n text ts := by
    intro k
    induction k using Nat.strongRecOn with
    | _ k ih =>
      intro text hk
      by_cases h0 : text = []
      · exact ⟨[], by rw [h0]; exact .nil⟩
      by_cases hl : text.length < n
      · exact ⟨_, .last h0 hl⟩
      · obtain ⟨ts, h⟩ := ih (text.drop n).length (by simp; omega) (text.drop n) rfl
        have := BlocksOf.cons (h := text.take n) (by simp; omega) h
        rw [List.take_append_drop] at this
        exact ⟨_, this⟩
  exact fun text => this _ text rfl

theorem BlocksOf.append {xs ys : List (List UInt8)} {r : List UInt8} (h : BlocksOf n text xs) (hm : text.length % n = 0) (h2 : BlocksOf n r ys) : BlocksOf n (text ++ r) (xs ++ ys) := by
  induction h with
  | nil => exact h2
  | last h0 h1 =>
    rw [Nat.mod_eq_of_lt h1] at hm
    exact absurd (List.length_eq_zero_iff.1 hm) h0
  | cons h1 _ ih =>
    rw [List.length_append, h1, Nat.add_mod_left] at hm
    rw [List.append_assoc]
    exact .cons h1 (ih hm)
/-- The blocks of blocks. -/
theorem BlocksOf.of_blocks {a b : Nat} {gs : List (List UInt8)} (h : BlocksOf (a * b) text gs) (F : List UInt8 → List (List UInt8)) (hF : ∀ g ∈ gs, BlocksOf a g (F g)) : BlocksOf a text (gs.map F).flatten := by
  induction h with
  | nil => exact .nil
  | last h0 h1 => simpa using hF _ List.mem_cons_self
  | @cons hd rest ts h1 _ ih =>
    rw [List.map_cons, List.flatten_cons]
    exact (hF hd List.mem_cons_self).append (by rw [h1]; exact Nat.mul_mod_right a b) (ih fun g hg => hF g (List.mem_cons_of_mem _ hg))

def kstep (n : Nat) : Unit → List UInt8 → Bool → Ans Unit := fun _ d eof =>
  if n ≤ d.length then ⟨n, some (d.take n), none, ()⟩ else if eof = true ∧ d ≠ [] then ⟨d.length, some d, none, ()⟩ else ⟨0, none, none, ()⟩
inductive Kq (n L : Nat) : Unit → List UInt8 → Oc Unit → Prop where
  | stop : Kq n L () [] .stop
  | last {r : List UInt8} : r ≠ [] → r.length < n → r.length < L → Kq n L () r (.tok r () [])
  | tok {h rest : List UInt8} : h.length = n → n < L → Kq n L () (h ++ rest) (.tok h () rest)
  | long {r : List UInt8} : L < r.length → L < n → Kq n L () r (.fail 2)

theorem kgood {L : Nat} (hn : 0 < n) (h : 0 < L) : Good (kstep n) (Kq n L) L := by
  refine ⟨h, fun s data tl o eof hq he hd hL => ?_⟩
  generalize hr : data ++ tl = r at hq
  have hlen := congrArg List.length hr
  rw [List.length_append] at hlen
  have asks : data.length < n → eof = false → Kq n L () r o → (data.length < L ∨ o = .fail 2) →
      (match (kstep n () data eof).err with
      | some c => if c = 6 then o = .fin (kstep n () data eof).tok else (c < 9 ∧ o = .fail c)
      | none => if (kstep n () data eof).adv < 0 then o = .fail 3 else if (data.length : Int) < (kstep n () data eof).adv then o = .fail 4
        else match (kstep n () data eof).tok with
          | some t => 0 < (kstep n () data eof).adv ∧ o = .tok t (kstep n () data eof).st (data.drop (kstep n () data eof).adv.toNat ++ tl)
          | none => if eof = true then o = .stop else Kq n L (kstep n () data eof).st (data.drop (kstep n () data eof).adv.toNat ++ tl) o ∧ (data.length - (kstep n () data eof).adv.toNat < L ∨ o = .fail 2)) := by
    intro h1 h2 h3 h4
    subst h2
    have hst : kstep n () data false = ⟨0, none, none, ()⟩ := by unfold kstep; rw [if_neg (by omega), if_neg (by simp)]
    rw [hst]
    simp only [Int.toNat_zero, List.drop_zero, hr]
    refine (?_ : if (0 : Int) < 0 then _ else _)
    rw [if_neg (by omega), if_neg (by omega), if_neg (by simp)]
    exact ⟨h3, by simpa using h4⟩
  cases hq with
  | stop =>
    obtain ⟨rfl, rfl⟩ := List.append_eq_nil_iff.1 hr
    have hd' : eof = true := by simpa using hd
    subst hd'
    have hst : kstep n () [] true = ⟨0, none, none, ()⟩ := by unfold kstep; rw [if_neg (by simp; omega), if_neg (by simp)]
    rw [hst]
    simp
  | last h0 h1 h2 =>
    cases eof with
    | false => exact asks (by omega) rfl (.last h0 h1 h2) (.inl (by omega))
    | true =>
      have ht := he rfl
      subst ht
      rw [List.append_nil] at hr
      subst hr
      have hp := List.length_pos_iff.2 h0
      have hst : kstep n () data true = ⟨data.length, some data, none, ()⟩ := by unfold kstep; rw [if_neg (by omega), if_pos ⟨rfl, h0⟩]
      rw [hst]
      simp only
      rw [if_neg (by omega), if_neg (by omega)]
      exact ⟨by omega, by simp⟩
  | @tok hd' rest h1 h2 =>
    rw [List.length_append] at hlen
    by_cases hfull : n ≤ data.length
    · have e1 : data.take n = hd' := by
        have := congrArg (List.take n) hr
        rw [List.take_append_of_le_length hfull, List.take_append_of_le_length (by omega)] at this
        rw [this]; exact List.take_of_length_le (by omega)
      have e2 : data.drop n ++ tl = rest := by
        have := congrArg (List.drop n) hr
        rw [List.drop_append_of_le_length hfull] at this
        rw [this, List.drop_append_of_le_length (by omega), List.drop_of_length_le (by omega)]
        rfl
      have hst : kstep n () data eof = ⟨n, some hd', none, ()⟩ := by unfold kstep; rw [if_pos hfull, e1]
      rw [hst]
      simp only
      rw [if_neg (by omega), if_neg (by omega)]
      refine ⟨by omega, ?_⟩
      rw [Int.toNat_natCast, e2]
    · cases eof with
      | false => exact asks (by omega) rfl (.tok h1 h2) (.inl (by omega))
      | true =>
        have ht := he rfl
        subst ht
        simp at hlen
        omega
  | long h1 h2 =>
    cases eof with
    | false => exact asks (by omega) rfl (.long h1 h2) (.inr rfl)
    | true =>
      have ht := he rfl
      subst ht
      simp at hlen
      omega

theorem krun {L : Nat} (h : BlocksOf n text ts) (hL : ∀ t ∈ ts, t.length < L) : Run (Kq n L) () text ts none := by
  induction h with
  | nil => exact .stop .stop
  | last h0 h1 => exact .tok (.last h0 h1 (hL _ List.mem_cons_self)) (.stop .stop)
  | cons h1 _ ih => exact .tok (.tok h1 (by have := hL _ List.mem_cons_self; omega)) (ih fun t ht => hL t (List.mem_cons_of_mem _ ht))
end
end Go.HE
