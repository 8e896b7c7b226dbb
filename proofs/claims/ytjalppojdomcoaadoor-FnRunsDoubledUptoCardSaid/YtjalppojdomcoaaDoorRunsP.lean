/- Runs of equal bytes: plain mathematics. No condition. -/
import Derived.Test.YtjalppojdomcoaaDoorAll
set_option maxRecDepth 100000
set_option maxHeartbeats 1000000
namespace Go.HE

inductive RunsOf : List UInt8 → List (List UInt8) → Prop where
  | nil : RunsOf [] []
  | cons {b : UInt8} {n : Nat} {rest : List UInt8} {ts : List (List UInt8)} : RunsOf rest ts → rest.head? ≠ some b → RunsOf (List.replicate (n + 1) b ++ rest) (List.replicate (n + 1) b :: ts)

theorem RunsOf.len {text : List UInt8} {ts : List (List UInt8)} (h : RunsOf text ts) : ts.length ≤ text.length := by
  induction h with
  | nil => simp
  | cons _ _ ih => simp; omega
theorem RunsOf.flat {text : List UInt8} {ts : List (List UInt8)} (h : RunsOf text ts) : ts.flatten = text := by
  induction h with
  | nil => rfl
  | cons _ _ ih => simp [ih]
theorem RunsOf.tok_le {text : List UInt8} {ts : List (List UInt8)} (h : RunsOf text ts) {t : List UInt8} (ht : t ∈ ts) : t.length ≤ text.length := by
  have := (List.sublist_flatten_of_mem ht).length_le
  rw [h.flat] at this
  exact this
theorem RunsOf.empty {ts : List (List UInt8)} (h : RunsOf [] ts) : ts = [] := by
  have := h.len
  simpa using this

theorem snoc_rep (n : Nat) (b : UInt8) : List.replicate (n + 1) b ++ [b] = List.replicate (n + 1 + 1) b := by
  rw [List.replicate_succ' (n := n + 1)]

theorem RunsOf.snoc_new {text : List UInt8} {ts : List (List UInt8)} {c : UInt8} (h : RunsOf text ts) (hc : text.getLast? ≠ some c) : RunsOf (text ++ [c]) (ts ++ [[c]]) := by
  induction h with
  | nil => exact RunsOf.cons (b := c) (n := 0) .nil (by simp)
  | @cons b n rest ts hr hh ih =>
    rw [List.append_assoc]
    cases rest with
    | nil =>
      obtain rfl := hr.empty
      refine RunsOf.cons (RunsOf.cons (b := c) (n := 0) .nil (by simp)) ?_
      intro h0
      have : c = b := by simpa using h0
      subst this
      exact hc (by simp [List.getLast?_replicate])
    | cons x r =>
      refine RunsOf.cons (ih ?_) ?_
      · intro h0
        apply hc
        simp [List.getLast?_append, h0]
      · simpa using hh

theorem RunsOf.snoc_same {text : List UInt8} {ts : List (List UInt8)} {c : UInt8} (h : RunsOf text ts) (hc : text.getLast? = some c) : ∃ ts0 t, ts = ts0 ++ [t] ∧ RunsOf (text ++ [c]) (ts0 ++ [t ++ [c]]) := by
  induction h with
  | nil => simp at hc
  | @cons b n rest ts hr hh ih =>
    cases rest with
    | nil =>
      obtain rfl := hr.empty
      have hb : b = c := by simpa [List.getLast?_replicate] using hc
      subst hb
      refine ⟨[], List.replicate (n + 1) b, rfl, ?_⟩
      simp only [List.append_nil, List.nil_append]
      rw [snoc_rep]
      have := RunsOf.cons (b := b) (n := n + 1) .nil (by simp)
      simpa using this
    | cons x r =>
      have hc : (x :: r).getLast? = some c := by
        rw [List.getLast?_append] at hc
        cases hx : (x :: r).getLast? with
        | none => simp at hx
        | some y => rw [hx] at hc; simpa using hc
      obtain ⟨ts0, t, rfl, h2⟩ := ih hc
      refine ⟨List.replicate (n + 1) b :: ts0, t, rfl, ?_⟩
      rw [List.append_assoc]
      exact RunsOf.cons h2 (by simpa using hh)

theorem runs_ex (text : List UInt8) : ∃ ts, RunsOf text ts := by
  induction text with
  | nil => exact ⟨[], .nil⟩
  | cons b r ih =>
    obtain ⟨ts, h⟩ := ih
    cases h with
    | nil => exact ⟨[[b]], RunsOf.cons (n := 0) .nil (by simp)⟩
    | @cons c n rest ts hr hh =>
      by_cases hb : b = c
      · subst hb
        exact ⟨_, RunsOf.cons (n := n + 1) hr hh⟩
      · exact ⟨_, RunsOf.cons (n := 0) (b := b) (RunsOf.cons hr hh) (by simp [List.replicate_succ]; exact fun h => hb h.symm)⟩

theorem RunsOf.const {text : List UInt8} {ts : List (List UInt8)} (h : RunsOf text ts) : ∀ t ∈ ts, ∃ b n, t = List.replicate (n + 1) b := by
  induction h with
  | nil => intro t ht; cases ht
  | @cons b n rest ts _ _ ih =>
    intro t ht
    rcases List.mem_cons.1 ht with rfl | ht
    · exact ⟨b, n, rfl⟩
    · exact ih t ht
theorem RunsOf.adj {text : List UInt8} {ts : List (List UInt8)} (h : RunsOf text ts) : ∀ (i : Nat) (x y : List UInt8), ts[i]? = some x → ts[i + 1]? = some y → x[0]? ≠ y[0]? := by
  induction h with
  | nil => intro i x y hx; simp at hx
  | @cons b n rest ts hr hh ih =>
    intro i x y hx hy
    cases i with
    | succ i => exact ih i x y (by simpa using hx) (by simpa using hy)
    | zero =>
      have hx' : List.replicate (n + 1) b = x := by simpa using hx
      subst hx'
      cases hr with
      | nil => simp at hy
      | @cons b2 n2 r2 t2 _ _ =>
        have hy' : List.replicate (n2 + 1) b2 = y := by simpa using hy
        subst hy'
        simp [List.getElem?_replicate]
        intro h0
        subst h0
        exact hh (by simp [List.replicate_succ])

/-- Each byte twice. -/
def dbl : List UInt8 → List UInt8
  | [] => []
  | b :: r => b :: b :: dbl r
theorem dbl_append : ∀ (x y : List UInt8), dbl (x ++ y) = dbl x ++ dbl y
  | [], _ => rfl
  | b :: r, y => by simp [dbl, dbl_append r y]
theorem dbl_len : ∀ x : List UInt8, (dbl x).length = 2 * x.length
  | [] => rfl
  | b :: r => by simp [dbl, dbl_len r]; omega
theorem dbl_rep (b : UInt8) : ∀ n : Nat, dbl (List.replicate n b) = List.replicate (n + n) b
  | 0 => rfl
  | n + 1 => by
    have e : n + 1 + (n + 1) = (n + n) + 1 + 1 := by omega
    rw [e, List.replicate_succ, List.replicate_succ, List.replicate_succ]
    simp [dbl, dbl_rep b n]
theorem dbl_head (x : List UInt8) : (dbl x).head? = x.head? := by cases x <;> rfl
theorem RunsOf.dbl {text : List UInt8} {ts : List (List UInt8)} (h : RunsOf text ts) : RunsOf (dbl text) (ts.map fun t => t ++ t) := by
  induction h with
  | nil => exact .nil
  | @cons b n rest ts hr hh ih =>
    rw [dbl_append, dbl_rep]
    have e : n + 1 + (n + 1) = (n + n + 1) + 1 := by omega
    have e2 : List.replicate (n + 1) b ++ List.replicate (n + 1) b = List.replicate ((n + n + 1) + 1) b := by rw [List.replicate_append_replicate, e]
    rw [List.map_cons, e2, e]
    exact RunsOf.cons ih (by rw [dbl_head]; exact hh)

/-- How many bytes at the beginning are equal. -/
def lead : List UInt8 → Nat
  | [] => 0
  | b :: r => 1 + (r.takeWhile (· == b)).length

theorem lead_aux (b : UInt8) : ∀ (r : List UInt8) (k : Nat), k ≤ r.length → (∀ j, j < k → r[j]? = some b) → (k = r.length ∨ r[k]? ≠ some b) → (r.takeWhile (· == b)).length = k
  | [], k, h, _, _ => by simp at h; simp [h]
  | x :: r, k, h, h1, h2 => by
    cases k with
    | zero =>
      rcases h2 with h2 | h2
      · simp at h2
      · have : ¬ x = b := by simpa using h2
        simp [this]
    | succ k =>
      have hx : x = b := by simpa using h1 0 (by omega)
      subst hx
      have := lead_aux x r k (by simpa using h) (fun j hj => by simpa using h1 (j + 1) (by omega)) (by simpa using h2)
      simp [this]
theorem lead_eq {d : List UInt8} {i : Nat} (h : i ≤ d.length) (h1 : ∀ j, j < i → d[j]? = d[0]?) (h2 : i = d.length ∨ d[i]? ≠ d[0]?) : lead d = i := by
  cases d with
  | nil => simp at h; simp [h, lead]
  | cons b r =>
    cases i with
    | zero =>
      rcases h2 with h2 | h2
      · simp at h2
      · exact absurd rfl h2
    | succ i =>
      have := lead_aux b r i (by simpa using h) (fun j hj => by simpa using h1 (j + 1) (by omega)) (by simpa using h2)
      simp [lead, this]; omega
theorem lead_rep (b : UInt8) (n : Nat) (c : List UInt8) (h : c.head? ≠ some b) : lead (List.replicate (n + 1) b ++ c) = n + 1 := by
  refine lead_eq (by simp) (fun j hj => ?_) ?_
  · rw [List.getElem?_append_left (by simpa using hj), List.getElem?_append_left (by simp), List.getElem?_replicate, List.getElem?_replicate, if_pos hj, if_pos (by omega)]
  · right
    rw [List.getElem?_append_right (by simp), List.getElem?_append_left (by simp), List.getElem?_replicate, if_pos (by omega)]
    simpa [List.head?_eq_getElem?] using h

def rstep : Unit → List UInt8 → Bool → Ans Unit := fun _ d eof => if 0 < lead d ∧ (lead d < d.length ∨ eof = true) then ⟨lead d, some (d.take (lead d)), none, ()⟩ else ⟨0, none, none, ()⟩
inductive Rq (L : Nat) : Unit → List UInt8 → Oc Unit → Prop where
  | stop : Rq L () [] .stop
  | tok {b : UInt8} {n : Nat} {rest : List UInt8} : rest.head? ≠ some b → n + 1 < L → Rq L () (List.replicate (n + 1) b ++ rest) (.tok (List.replicate (n + 1) b) () rest)
  | long {b : UInt8} {n : Nat} {rest : List UInt8} : rest.head? ≠ some b → L < n + 1 → Rq L () (List.replicate (n + 1) b ++ rest) (.fail 2)

theorem rgood {L : Nat} (h : 0 < L) : Good rstep (Rq L) L := by
  refine ⟨h, fun s data tl o eof hq he hd hL => ?_⟩
  generalize hr : data ++ tl = r at hq
  have key : ∀ (b : UInt8) (n : Nat) (rest : List UInt8), rest.head? ≠ some b → r = List.replicate (n + 1) b ++ rest → data ≠ [] →
      (data.length ≤ n + 1 ∧ lead data = data.length) ∨ (n + 1 < data.length ∧ lead data = n + 1 ∧ data.take (n + 1) = List.replicate (n + 1) b ∧ data.drop (n + 1) ++ tl = rest) := by
    intro b n rest hh hrr hne
    rw [hrr] at hr
    rcases List.append_eq_append_iff.1 hr with ⟨a', h1, h2⟩ | ⟨c', h1, h2⟩
    · left
      have hlen := congrArg List.length h1
      simp at hlen
      have hdat : data = List.replicate data.length b := by
        refine List.eq_replicate_iff.2 ⟨rfl, fun x hx => ?_⟩
        have : x ∈ List.replicate (n + 1) b := by rw [h1]; exact List.mem_append_left _ hx
        exact (List.mem_replicate.1 this).2
      refine ⟨by omega, ?_⟩
      cases hk : data.length with
      | zero => exact absurd (List.length_eq_zero_iff.1 hk) hne
      | succ k =>
        rw [hk] at hdat
        have := lead_rep b k [] (by simp)
        rw [List.append_nil, ← hdat] at this
        exact this
    · by_cases hc : c' = []
      · subst hc
        left
        rw [List.append_nil] at h1
        refine ⟨by rw [h1]; simp, ?_⟩
        have := lead_rep b n [] (by simp)
        rw [List.append_nil, ← h1] at this
        rw [this, h1]; simp
      · right
        have hpos := List.length_pos_iff.2 hc
        refine ⟨by rw [h1]; simp; omega, ?_, ?_, ?_⟩
        · rw [h1]
          refine lead_rep b n c' ?_
          rw [h2] at hh
          cases c' with
          | nil => exact absurd rfl hc
          | cons x y => simpa using hh
        · rw [h1]; simp [List.take_append]
        · rw [h1, h2]; simp [List.drop_append]
  have hdne : ∀ (b : UInt8) (n : Nat) (rest : List UInt8), r = List.replicate (n + 1) b ++ rest → data ≠ [] := by
    intro b n rest hrr h0
    subst h0
    have hd' : eof = true := by simpa using hd
    rw [he hd', hrr] at hr
    simp [List.replicate_succ] at hr
  cases hq with
  | stop =>
    obtain ⟨rfl, rfl⟩ := List.append_eq_nil_iff.1 hr
    have hd' : eof = true := by simpa using hd
    subst hd'
    simp [rstep, lead]
  | @tok b n rest hh hn =>
    have hne := hdne b n rest rfl
    have hpos := List.length_pos_iff.2 hne
    rcases key b n rest hh rfl hne with ⟨h1, h2⟩ | ⟨h1, h2, h3, h4⟩
    · cases eof with
      | false =>
        have hst : rstep () data false = ⟨0, none, none, ()⟩ := by unfold rstep; rw [if_neg (by rw [h2]; simp)]
        rw [hst]
        simp only [Int.toNat_zero, List.drop_zero, hr]
        refine (?_ : if (0 : Int) < 0 then _ else _)
        rw [if_neg (by omega), if_neg (by omega), if_neg (by simp)]
        exact ⟨.tok hh hn, .inl (by omega)⟩
      | true =>
        have ht := he rfl
        subst ht
        rw [List.append_nil] at hr
        have hlen := congrArg List.length hr
        simp at hlen
        have hr0 : rest = [] := List.length_eq_zero_iff.1 (by omega)
        subst hr0
        rw [List.append_nil] at hr
        have hst : rstep () data true = ⟨(data.length : Int), some data, none, ()⟩ := by unfold rstep; rw [if_pos ⟨by omega, .inr rfl⟩, h2]; simp
        rw [hst]
        simp only
        rw [if_neg (by omega), if_neg (by omega)]
        refine ⟨by omega, ?_⟩
        rw [hr]; simp
    · have hst : rstep () data eof = ⟨((n + 1 : Nat) : Int), some (List.replicate (n + 1) b), none, ()⟩ := by unfold rstep; rw [if_pos ⟨by omega, .inl (by omega)⟩, h2, h3]
      rw [hst]
      simp only
      rw [if_neg (by omega), if_neg (by omega)]
      refine ⟨by omega, ?_⟩
      rw [Int.toNat_natCast, h4]
  | @long b n rest hh hn =>
    have hne := hdne b n rest rfl
    rcases key b n rest hh rfl hne with ⟨h1, h2⟩ | ⟨h1, h2, h3, h4⟩
    · cases eof with
      | false =>
        have hst : rstep () data false = ⟨0, none, none, ()⟩ := by unfold rstep; rw [if_neg (by rw [h2]; simp)]
        rw [hst]
        simp only [Int.toNat_zero, List.drop_zero, hr]
        refine (?_ : if (0 : Int) < 0 then _ else _)
        rw [if_neg (by omega), if_neg (by omega), if_neg (by simp)]
        exact ⟨.long hh hn, .inr (by simp)⟩
      | true =>
        have ht := he rfl
        subst ht
        rw [List.append_nil] at hr
        have hlen := congrArg List.length hr
        simp at hlen
        omega
    · omega

theorem rrun {L : Nat} {text : List UInt8} {ts : List (List UInt8)} (h : RunsOf text ts) (hL : ∀ t ∈ ts, t.length < L) : Run (Rq L) () text ts none := by
  induction h with
  | nil => exact .stop .stop
  | cons _ hh ih => exact .tok (.tok hh (by simpa using hL _ List.mem_cons_self)) (ih fun t ht => hL t (List.mem_cons_of_mem _ ht))
theorem rrun_long {L : Nat} : ∀ {xs ys : List (List UInt8)} {t text : List UInt8}, RunsOf text (xs ++ t :: ys) → (∀ x ∈ xs, x.length < L) → L < t.length → Run (Rq L) () text xs (some 2)
  | [], ys, t, text, h, _, ht => by
    cases h with
    | cons _ hh => exact .fail (.long hh (by simpa using ht))
  | x :: xs, ys, t, text, h, hL, ht => by
    cases h with
    | cons hr hh => exact .tok (.tok hh (by simpa using hL _ List.mem_cons_self)) (rrun_long hr (fun a ha => hL a (List.mem_cons_of_mem _ ha)) ht)
end Go.HE
