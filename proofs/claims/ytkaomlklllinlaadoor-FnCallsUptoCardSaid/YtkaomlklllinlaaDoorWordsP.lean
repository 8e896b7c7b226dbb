/- Words between spaces, and lines: plain mathematics. No condition. -/
import Derived.Test.YtkaomlklllinlaaDoorLayP
import Derived.Lib.DecodeN
set_option maxRecDepth 100000
set_option maxHeartbeats 1000000
namespace Go.HE
open Go.Lib (decodeN)

/-- Is a character a space. -/
def isSp (r : Int) : Bool := decide (r = 32 ∨ (9 ≤ r ∧ r ≤ 13) ∨ r = 133 ∨ r = 160 ∨ (8192 ≤ r ∧ r ≤ 8202) ∨ r = 5760 ∨ r = 8232 ∨ r = 8233 ∨ r = 8239 ∨ r = 8287 ∨ r = 12288)
theorem isSp_err : isSp 65533 = false := by decide
theorem isSp_ascii {b : Nat} (h : b < 128) : isSp (b : Int) = decide (b = 32 ∨ (9 ≤ b ∧ b ≤ 13)) := by
  unfold isSp
  congr 1
  apply propext
  omega

def byt (d : List UInt8) (i : Nat) : Nat := (d.getD i 0).toNat
/-- The first character of a text, and its length. -/
def dec (d : List UInt8) : Nat × Nat := decodeN d.length (byt d 0) (byt d 1) (byt d 2) (byt d 3)

theorem decodeN_size (n b0 b1 b2 b3 : Nat) (h : 1 ≤ n) : 1 ≤ (decodeN n b0 b1 b2 b3).2 ∧ (decodeN n b0 b1 b2 b3).2 ≤ n := by
  unfold decodeN
  repeat' split
  all_goals simp only
  all_goals omega
theorem decodeN_err {n b0 b1 b2 b3 : Nat} (h : b0 / 64 = 2) : decodeN n b0 b1 b2 b3 = (65533, 1) := by
  unfold decodeN
  rw [if_neg (by omega), if_neg (by omega), if_neg (by omega), if_neg (by omega)]
theorem decodeN_ascii {n b0 b1 b2 b3 : Nat} (h : b0 < 128) : decodeN n b0 b1 b2 b3 = (b0, 1) := by
  unfold decodeN
  rw [if_pos h]
theorem decodeN_two {n b0 b1 b2 b3 : Nat} (hlow : ¬ b0 < 128) (h6 : b0 / 32 = 6) (h1 : 1 < n) (hb1 : b1 / 64 = 2) : decodeN n b0 b1 b2 b3 = (if b0 % 32 * 64 + b1 % 64 ≥ 128 then (b0 % 32 * 64 + b1 % 64, 2) else (65533, 1)) := by
  unfold decodeN
  rw [if_neg hlow, if_pos (show b0 / 32 = 6 ∧ (1 < n ∧ b1 / 64 = 2) from ⟨h6, h1, hb1⟩)]
theorem decodeN_three {n b0 b1 b2 b3 : Nat} (hlow : ¬ b0 < 128) (h14 : b0 / 16 = 14) (h2 : 2 < n) (hb1 : b1 / 64 = 2) (hb2 : b2 / 64 = 2) : decodeN n b0 b1 b2 b3 = (if b0 % 16 * 4096 + b1 % 64 * 64 + b2 % 64 ≥ 2048 ∧ (b0 % 16 * 4096 + b1 % 64 * 64 + b2 % 64 < 55296 ∨ (57344 ≤ b0 % 16 * 4096 + b1 % 64 * 64 + b2 % 64 ∧ b0 % 16 * 4096 + b1 % 64 * 64 + b2 % 64 ≤ 1114111)) then (b0 % 16 * 4096 + b1 % 64 * 64 + b2 % 64, 3) else (65533, 1)) := by
  unfold decodeN
  rw [if_neg hlow, if_neg (show ¬ (b0 / 32 = 6 ∧ (1 < n ∧ b1 / 64 = 2)) by omega), if_pos (show b0 / 16 = 14 ∧ (1 < n ∧ b1 / 64 = 2) ∧ (2 < n ∧ b2 / 64 = 2) from ⟨h14, ⟨by omega, hb1⟩, h2, hb2⟩)]
theorem decodeN_bad {n b0 b1 b2 b3 : Nat} (hlow : ¬ b0 < 128) (h1 : ¬ (b0 / 32 = 6 ∧ (1 < n ∧ b1 / 64 = 2))) (h2 : ¬ (b0 / 16 = 14 ∧ (1 < n ∧ b1 / 64 = 2) ∧ (2 < n ∧ b2 / 64 = 2))) (h3 : ¬ (b0 / 8 = 30 ∧ (1 < n ∧ b1 / 64 = 2) ∧ (2 < n ∧ b2 / 64 = 2) ∧ (3 < n ∧ b3 / 64 = 2))) : decodeN n b0 b1 b2 b3 = (65533, 1) := by
  unfold decodeN
  rw [if_neg hlow, if_neg h1, if_neg h2, if_neg h3]
/-- On a beginning of a text the first character is the same, or an error; then the text goes on with bytes of a character. -/
theorem decodeN_part {n m b0 b1 b2 b3 c1 c2 c3 : Nat} (hn : 1 ≤ n) (hm : n ≤ m) (h1 : 1 < n → b1 = c1) (h2 : 2 < n → b2 = c2) (h3 : 3 < n → b3 = c3) :
    decodeN n b0 b1 b2 b3 = decodeN m b0 c1 c2 c3 ∨ (decodeN n b0 b1 b2 b3 = (65533, 1) ∧ n ≤ 3 ∧ (1 < n → b1 / 64 = 2) ∧ (2 < n → b2 / 64 = 2)) := by
  by_cases hlow : b0 < 128
  · left; rw [decodeN_ascii hlow, decodeN_ascii hlow]
  by_cases hn4 : 3 < n
  · left
    rw [h1 (by omega), h2 (by omega), h3 hn4]
    unfold decodeN
    have e1 : (1 < n) = (1 < m) := propext ⟨fun _ => by omega, fun _ => by omega⟩
    have e2 : (2 < n) = (2 < m) := propext ⟨fun _ => by omega, fun _ => by omega⟩
    have e3 : (3 < n) = (3 < m) := propext ⟨fun _ => by omega, fun _ => by omega⟩
    simp only [e1, e2, e3]
  by_cases hn1 : n = 1
  · right
    subst hn1
    exact ⟨decodeN_bad hlow (by omega) (by omega) (by omega), by omega, by omega, by omega⟩
  have g1 := h1 (by omega)
  subst g1
  by_cases hb1 : b1 / 64 = 2
  · by_cases h6 : b0 / 32 = 6
    · left
      rw [decodeN_two hlow h6 (by omega) hb1, decodeN_two hlow h6 (by omega) hb1]
    by_cases hn2 : n = 2
    · right
      subst hn2
      exact ⟨decodeN_bad hlow (by omega) (by omega) (by omega), by omega, fun _ => hb1, by omega⟩
    have hn3 : n = 3 := by omega
    subst hn3
    have g2 := h2 (by omega)
    subst g2
    by_cases hb2 : b2 / 64 = 2
    · by_cases h14 : b0 / 16 = 14
      · left
        rw [decodeN_three hlow h14 (by omega) hb1 hb2, decodeN_three hlow h14 (by omega) hb1 hb2]
      · right
        exact ⟨decodeN_bad hlow (by omega) (by omega) (by omega), by omega, fun _ => hb1, fun _ => hb2⟩
    · left
      rw [decodeN_bad hlow (by omega) (by omega) (by omega), decodeN_bad hlow (by omega) (by omega) (by omega)]
  · left
    rw [decodeN_bad hlow (by omega) (by omega) (by omega), decodeN_bad hlow (by omega) (by omega) (by omega)]

theorem dec_size {d : List UInt8} (h : d ≠ []) : 1 ≤ (dec d).2 ∧ (dec d).2 ≤ d.length := decodeN_size _ _ _ _ _ (List.length_pos_iff.2 h)
theorem byt_append {d tl : List UInt8} {i : Nat} (h : i < d.length) : byt (d ++ tl) i = byt d i := by
  unfold byt
  simp [List.getD_eq_getElem?_getD, List.getElem?_append_left h]
/-- All bytes but the first one are bytes within a character. -/
def Cont (d : List UInt8) : Prop := ∀ i, i < d.length → byt d i / 64 = 2
theorem dec_part {d : List UInt8} (tl : List UInt8) (h : d ≠ []) : dec (d ++ tl) = dec d ∨ (dec d = (65533, 1) ∧ Cont (d.drop 1)) := by
  have hp := List.length_pos_iff.2 h
  have hl : (d ++ tl).length = d.length + tl.length := List.length_append
  rcases decodeN_part (n := d.length) (m := (d ++ tl).length) (b0 := byt d 0) (b1 := byt d 1) (b2 := byt d 2) (b3 := byt d 3) (c1 := byt (d ++ tl) 1) (c2 := byt (d ++ tl) 2) (c3 := byt (d ++ tl) 3) hp (by omega) (fun h => (byt_append h).symm) (fun h => (byt_append h).symm) (fun h => (byt_append h).symm) with h1 | ⟨h1, h2, h3, h4⟩
  · left
    unfold dec
    rw [byt_append hp]
    exact h1.symm
  · right
    refine ⟨h1, fun i hi => ?_⟩
    rw [List.length_drop] at hi
    have e : byt (d.drop 1) i = byt d (i + 1) := by
      unfold byt
      simp [List.getD_eq_getElem?_getD]
    rw [e]
    rcases (by omega : i = 0 ∨ i = 1) with rfl | rfl
    · exact h3 (by omega)
    · exact h4 (by omega)

/-- How many bytes of spaces stand at the beginning. -/
def skipS (d : List UInt8) : Nat :=
  if _h : d = [] then 0 else if isSp ((dec d).1 : Int) = true then (dec d).2 + skipS (d.drop (dec d).2) else 0
termination_by d.length
decreasing_by
  have := dec_size ‹¬ d = []›
  rw [List.length_drop]; omega
/-- Where the first space is, and its length. -/
def findS (d : List UInt8) : Option (Nat × Nat) :=
  if _h : d = [] then none else if isSp ((dec d).1 : Int) = true then some (0, (dec d).2) else (findS (d.drop (dec d).2)).map fun p => ((dec d).2 + p.1, p.2)
termination_by d.length
decreasing_by
  have := dec_size ‹¬ d = []›
  rw [List.length_drop]; omega
theorem skipS_nil : skipS [] = 0 := by rw [skipS, dif_pos rfl]
theorem findS_nil : findS [] = none := by rw [findS, dif_pos rfl]
theorem skipS_sp {d : List UInt8} (h : d ≠ []) (hs : isSp ((dec d).1 : Int) = true) : skipS d = (dec d).2 + skipS (d.drop (dec d).2) := by rw [skipS, dif_neg h, if_pos hs]
theorem skipS_no {d : List UInt8} (h : d ≠ []) (hs : isSp ((dec d).1 : Int) = false) : skipS d = 0 := by rw [skipS, dif_neg h, if_neg (by rw [hs]; simp)]
theorem findS_sp {d : List UInt8} (h : d ≠ []) (hs : isSp ((dec d).1 : Int) = true) : findS d = some (0, (dec d).2) := by rw [findS, dif_neg h, if_pos hs]
theorem findS_no {d : List UInt8} (h : d ≠ []) (hs : isSp ((dec d).1 : Int) = false) : findS d = (findS (d.drop (dec d).2)).map fun p => ((dec d).2 + p.1, p.2) := by rw [findS, dif_neg h, if_neg (by rw [hs]; simp)]

theorem skip_le : ∀ (n : Nat) (d : List UInt8), d.length = n → skipS d ≤ d.length := by
  intro n
  induction n using Nat.strongRecOn with
  | _ n ih =>
    intro d hd
    by_cases h : d = []
    · subst h; rw [skipS_nil]; simp
    have hs := dec_size h
    cases hsp : isSp ((dec d).1 : Int) with
    | true =>
      rw [skipS_sp h hsp]
      have := ih (d.drop (dec d).2).length (by rw [List.length_drop]; omega) _ rfl
      rw [List.length_drop] at this
      omega
    | false => rw [skipS_no h hsp]; omega
theorem find_le : ∀ (n : Nat) (d : List UInt8), d.length = n → ∀ i w, findS d = some (i, w) → 1 ≤ w ∧ i + w ≤ d.length := by
  intro n
  induction n using Nat.strongRecOn with
  | _ n ih =>
    intro d hd i w hf
    by_cases h : d = []
    · subst h; rw [findS_nil] at hf; cases hf
    have hs := dec_size h
    cases hsp : isSp ((dec d).1 : Int) with
    | true => rw [findS_sp h hsp] at hf; cases hf; omega
    | false =>
      rw [findS_no h hsp] at hf
      obtain ⟨⟨j, v⟩, h1, h2⟩ := Option.map_eq_some_iff.1 hf
      cases h2
      have := ih (d.drop (dec d).2).length (by rw [List.length_drop]; omega) _ rfl j v h1
      rw [List.length_drop] at this
      omega
theorem find_pos {d : List UInt8} (h0 : skipS d = 0) {i w : Nat} (hf : findS d = some (i, w)) : 1 ≤ i := by
  by_cases h : d = []
  · subst h; rw [findS_nil] at hf; cases hf
  have hs := dec_size h
  cases hsp : isSp ((dec d).1 : Int) with
  | true => rw [skipS_sp h hsp] at h0; omega
  | false =>
    rw [findS_no h hsp] at hf
    obtain ⟨⟨j, v⟩, h1, h2⟩ := Option.map_eq_some_iff.1 hf
    cases h2
    omega
theorem drop_app {d tl : List UInt8} {k : Nat} (h : k ≤ d.length) : (d ++ tl).drop k = d.drop k ++ tl := List.drop_append_of_le_length h
theorem skip_part (tl : List UInt8) : ∀ (n : Nat) (d : List UInt8), d.length = n → skipS (d ++ tl) = skipS d + skipS (d.drop (skipS d) ++ tl) := by
  intro n
  induction n using Nat.strongRecOn with
  | _ n ih =>
    intro d hd
    by_cases h : d = []
    · subst h; rw [skipS_nil]; simp
    have hs := dec_size h
    cases hsp : isSp ((dec d).1 : Int) with
    | true =>
      rcases dec_part tl h with he | ⟨he, _⟩
      · rw [skipS_sp h hsp, skipS_sp (d := d ++ tl) (by simp [h]) (by rw [he]; exact hsp), he, drop_app hs.2, ih (d.drop (dec d).2).length (by rw [List.length_drop]; omega) _ rfl, ← List.drop_drop]
        omega
      · have h9 : isSp 65533 = true := by rw [he] at hsp; exact hsp
        rw [isSp_err] at h9; cases h9
    | false => rw [skipS_no h hsp]; simp
theorem skip_rest : ∀ (n : Nat) (d : List UInt8), d.length = n → skipS (d.drop (skipS d)) = 0 := by
  intro n
  induction n using Nat.strongRecOn with
  | _ n ih =>
    intro d hd
    by_cases h : d = []
    · subst h; rw [skipS_nil]; simp [skipS_nil]
    have hs := dec_size h
    cases hsp : isSp ((dec d).1 : Int) with
    | true =>
      rw [skipS_sp h hsp, ← List.drop_drop]
      exact ih (d.drop (dec d).2).length (by rw [List.length_drop]; omega) _ rfl
    | false => rw [skipS_no h hsp, List.drop_zero, skipS_no h hsp]
theorem find_cont : ∀ (d : List UInt8), Cont d → findS d = none
  | [], _ => findS_nil
  | b :: d, hc => by
    have h0 := hc 0 (by simp)
    have hd : dec (b :: d) = (65533, 1) := decodeN_err h0
    rw [findS_no (by simp) (by rw [hd]; exact isSp_err), hd]
    have : findS ((b :: d).drop 1) = none := find_cont d fun i hi => by
      have := hc (i + 1) (by simpa using hi)
      simpa [byt] using this
    rw [this]; rfl
theorem find_part (tl : List UInt8) : ∀ (n : Nat) (d : List UInt8), d.length = n → ∀ i w, findS d = some (i, w) → findS (d ++ tl) = some (i, w) ∧ (skipS d = 0 → skipS (d ++ tl) = 0) := by
  intro n
  induction n using Nat.strongRecOn with
  | _ n ih =>
    intro d hd i w hf
    by_cases h : d = []
    · subst h; rw [findS_nil] at hf; cases hf
    have hs := dec_size h
    have hne : d ++ tl ≠ [] := by simp [h]
    rcases dec_part tl h with he | ⟨he, hc⟩
    · cases hsp : isSp ((dec d).1 : Int) with
      | true =>
        rw [findS_sp h hsp] at hf
        refine ⟨?_, fun h0 => by rw [skipS_sp h hsp] at h0; omega⟩
        rw [findS_sp hne (by rw [he]; exact hsp), he]; exact hf
      | false =>
        rw [findS_no h hsp] at hf
        obtain ⟨⟨j, v⟩, h1, h2⟩ := Option.map_eq_some_iff.1 hf
        refine ⟨?_, fun _ => skipS_no hne (by rw [he]; exact hsp)⟩
        rw [findS_no hne (by rw [he]; exact hsp), he, drop_app hs.2, (ih (d.drop (dec d).2).length (by rw [List.length_drop]; omega) _ rfl j v h1).1]
        exact congrArg some h2
    · rw [findS_no h (by rw [he]; exact isSp_err), he, find_cont _ hc] at hf
      cases hf

/-- What ScanWords answers. -/
def wstep : Unit → List UInt8 → Bool → Ans Unit := fun _ d eof =>
  match findS (d.drop (skipS d)) with
  | some p => ⟨((skipS d + p.1 + p.2 : Nat) : Int), some ((d.drop (skipS d)).take p.1), none, ()⟩
  | none => if eof = true ∧ skipS d < d.length then ⟨(d.length : Int), some (d.drop (skipS d)), none, ()⟩ else ⟨((skipS d : Nat) : Int), none, none, ()⟩
/-- The next word of all that is left. -/
def wout (r : List UInt8) : Oc Unit :=
  match findS (r.drop (skipS r)) with
  | some p => .tok ((r.drop (skipS r)).take p.1) () (r.drop (skipS r + p.1 + p.2))
  | none => if skipS r < r.length then .tok (r.drop (skipS r)) () [] else .stop
def wq : Unit → List UInt8 → Oc Unit → Prop := fun _ r o => o = wout r
theorem wstep_ok : StepOk wstep := by
  refine ⟨fun s d e t hd ht => ?_, fun s d e hd => ?_, fun s d e c h => ?_⟩
  · have h1 := skip_le _ d rfl
    unfold wstep at ht ⊢
    cases hf : findS (d.drop (skipS d)) with
    | some p =>
      obtain ⟨i, w⟩ := p
      have h2 := find_le _ _ rfl i w hf
      have h3 := find_pos (skip_rest _ d rfl) hf
      rw [List.length_drop] at h2
      rw [hf] at ht
      simp only at ht ⊢
      cases ht
      refine ⟨.inl ⟨trivial, by omega⟩, by omega, by omega, ?_⟩
      rw [List.length_take, List.length_drop]; omega
    | none =>
      rw [hf] at ht
      simp only at ht ⊢
      split at ht
      · rename_i hx
        rw [if_pos hx]
        cases ht
        refine ⟨.inl ⟨rfl, by show (0 : Int) < (d.length : Int); omega⟩, by show (0 : Int) ≤ (d.length : Int); omega, Int.le_refl _, ?_⟩
        rw [List.length_drop]; omega
      · cases ht
  · have h1 := skip_le _ d rfl
    unfold wstep
    cases hf : findS (d.drop (skipS d)) with
    | some p =>
      obtain ⟨i, w⟩ := p
      have h2 := find_le _ _ rfl i w hf
      rw [List.length_drop] at h2
      simp only
      omega
    | none =>
      simp only
      split
      · simp only; omega
      · simp only; omega
  · unfold wstep at h
    split at h
    · cases h
    · split at h <;> cases h
theorem wout_skip (d tl : List UInt8) : wout (d ++ tl) = wout (d.drop (skipS d) ++ tl) := by
  have h0 := skip_part tl _ d rfl
  have h1 := skip_le _ d rfl
  have h2 : (d ++ tl).drop (skipS d) = d.drop (skipS d) ++ tl := drop_app h1
  have h3 : (d.drop (skipS d) ++ tl).length = d.length + tl.length - skipS d := by rw [← h2]; simp
  unfold wout
  rw [h0, ← List.drop_drop, h2]
  generalize hr : d.drop (skipS d) ++ tl = r at h2 h3
  generalize findS (r.drop (skipS r)) = f
  cases f with
  | some p =>
    simp only
    have e : r.drop (skipS r + p.1 + p.2) = (d ++ tl).drop (skipS d + (skipS r + p.1 + p.2)) := by rw [show (d ++ tl).drop (skipS d + (skipS r + p.1 + p.2)) = ((d ++ tl).drop (skipS d)).drop (skipS r + p.1 + p.2) from List.drop_drop.symm, h2]
    rw [e, show skipS d + skipS r + p.1 + p.2 = skipS d + (skipS r + p.1 + p.2) by omega]
  | none =>
    simp only
    have : skipS d + skipS r < (d ++ tl).length ↔ skipS r < r.length := by rw [List.length_append]; omega
    by_cases hc : skipS r < r.length
    · rw [if_pos hc, if_pos (this.2 hc)]
    · rw [if_neg hc, if_neg (fun h => hc (this.1 h))]
theorem wfits : Fits wstep wq := by
  intro s data tl o eof hq he hd
  have h1 := skip_le _ data rfl
  have h0 := skip_rest _ data rfl
  obtain rfl : o = wout (data ++ tl) := hq
  rw [wout_skip]
  unfold wstep
  generalize hr : data.drop (skipS data) = d at h0
  have hdl : d.length = data.length - skipS data := by rw [← hr, List.length_drop]
  cases hf : findS d with
  | some p =>
    obtain ⟨i, w⟩ := p
    have h2 := find_le _ _ rfl i w hf
    obtain ⟨h3, h4⟩ := find_part tl _ d rfl i w hf
    refine .tok _ rfl rfl ?_
    unfold wout
    rw [h4 h0, List.drop_zero, h3]
    simp only
    rw [List.take_append_of_le_length (by omega), Nat.zero_add, List.drop_append_of_le_length (by omega)]
    congr 2
    rw [← hr, List.drop_drop]
    congr 1
    omega
  | none =>
    simp only
    cases eof with
    | false =>
      rw [if_neg (by simp)]
      refine .more rfl rfl rfl (by show (0 : Int) ≤ ((skipS data : Nat) : Int); omega) (by show ((skipS data : Nat) : Int) ≤ (data.length : Int); omega) ?_
      show wout (d ++ tl) = wout (data.drop (((skipS data : Nat) : Int)).toNat ++ tl)
      rw [show (((skipS data : Nat) : Int)).toNat = skipS data by omega, hr]
    | true =>
      have := he rfl
      subst this
      rw [List.append_nil]
      have hw : wout d = if 0 < d.length then .tok d () [] else .stop := by
        unfold wout
        rw [h0, List.drop_zero, hf]
      rw [hw]
      by_cases hc : skipS data < data.length
      · rw [if_pos ⟨rfl, hc⟩, if_pos (by omega)]
        refine .tok _ rfl rfl ?_
        show _ = Oc.tok d () (data.drop ((data.length : Int)).toNat ++ [])
        rw [show ((data.length : Int)).toNat = data.length by omega, List.drop_length]; rfl
      · rw [if_neg (fun h => hc h.2), if_neg (by omega)]
        refine .stop rfl rfl rfl (by show (0 : Int) ≤ ((skipS data : Nat) : Int); omega) (by show ((skipS data : Nat) : Int) ≤ (data.length : Int); omega) ?_ rfl
        show Oc.stop = wout []
        unfold wout
        rw [List.drop_nil, findS_nil]
        simp
theorem wrun_ex : ∀ (n : Nat) (r : List UInt8), r.length = n → ∃ ts, Run wq () r ts none ∧ ts.length ≤ r.length := by
  intro n
  induction n using Nat.strongRecOn with
  | _ n ih =>
    intro r hr
    have h1 := skip_le _ r rfl
    cases hf : findS (r.drop (skipS r)) with
    | some p =>
      obtain ⟨i, w⟩ := p
      have h2 := find_le _ _ rfl i w hf
      rw [List.length_drop] at h2
      have hw : wout r = .tok ((r.drop (skipS r)).take i) () (r.drop (skipS r + i + w)) := by unfold wout; rw [hf]
      obtain ⟨ts, h3, h4⟩ := ih (r.drop (skipS r + i + w)).length (by rw [List.length_drop]; omega) _ rfl
      refine ⟨_, .tok hw.symm h3, ?_⟩
      rw [List.length_drop] at h4
      simp only [List.length_cons]
      omega
    | none =>
      by_cases hc : skipS r < r.length
      · have hw : wout r = .tok (r.drop (skipS r)) () [] := by unfold wout; rw [hf]; simp only; rw [if_pos hc]
        have hw0 : wout [] = .stop := by
          unfold wout
          rw [List.drop_nil, findS_nil]
          simp
        exact ⟨[r.drop (skipS r)], .tok hw.symm (.stop hw0.symm), by simp; omega⟩
      · have hw : wout r = .stop := by unfold wout; rw [hf]; simp only; rw [if_neg hc]
        exact ⟨[], .stop hw.symm, by simp⟩

/-! Lines. -/
def dropC (d : List UInt8) : List UInt8 := if d.getLast? = some 13 then d.dropLast else d
theorem dropC_le (d : List UInt8) : (dropC d).length ≤ d.length := by unfold dropC; split <;> simp
def nlAt (d : List UInt8) : Option Nat := d.findIdx? (fun b => decide (b = 10))
def lstep : Unit → List UInt8 → Bool → Ans Unit := fun _ d eof =>
  if eof = true ∧ d = [] then ⟨0, none, none, ()⟩
  else match nlAt d with
  | some i => ⟨((i + 1 : Nat) : Int), some (dropC (d.take i)), none, ()⟩
  | none => if eof = true then ⟨(d.length : Int), some (dropC d), none, ()⟩ else ⟨0, none, none, ()⟩
def lout (r : List UInt8) : Oc Unit :=
  match nlAt r with
  | some i => .tok (dropC (r.take i)) () (r.drop (i + 1))
  | none => if r = [] then .stop else .tok (dropC r) () []
def lq : Unit → List UInt8 → Oc Unit → Prop := fun _ r o => o = lout r
theorem nl_lt {d : List UInt8} {i : Nat} (h : nlAt d = some i) : i < d.length := (List.findIdx?_eq_some_iff_getElem.1 h).1
theorem nl_part {d : List UInt8} (tl : List UInt8) {i : Nat} (h : nlAt d = some i) : nlAt (d ++ tl) = some i := by
  unfold nlAt at h ⊢
  rw [List.findIdx?_append, h]; rfl
theorem lstep_ok : StepOk lstep := by
  refine ⟨fun s d e t hd ht => ?_, fun s d e hd => ?_, fun s d e c h => ?_⟩
  · unfold lstep at ht ⊢
    split at ht
    · cases ht
    rename_i hne
    rw [if_neg hne]
    cases hf : nlAt d with
    | some i =>
      have h1 := nl_lt hf
      rw [hf] at ht
      simp only at ht ⊢
      cases ht
      refine ⟨.inl ⟨trivial, by omega⟩, by omega, by omega, ?_⟩
      have := dropC_le (d.take i)
      rw [List.length_take] at this
      omega
    | none =>
      rw [hf] at ht
      simp only at ht ⊢
      cases e with
      | false => rw [if_neg (by simp)] at ht; cases ht
      | true =>
        rw [if_pos rfl] at ht ⊢
        cases ht
        have hp : 0 < d.length := List.length_pos_iff.2 fun h => hne ⟨rfl, h⟩
        exact ⟨.inl ⟨rfl, by show (0 : Int) < (d.length : Int); omega⟩, by show (0 : Int) ≤ (d.length : Int); omega, Int.le_refl _, dropC_le d⟩
  · unfold lstep
    split
    · simp only; omega
    cases hf : nlAt d with
    | some i => have h1 := nl_lt hf; simp only; omega
    | none => simp only; split <;> (simp only; omega)
  · unfold lstep at h
    split at h
    · cases h
    · split at h
      · cases h
      · split at h <;> cases h
theorem lfits : Fits lstep lq := by
  intro s data tl o eof hq he hd
  obtain rfl : o = lout (data ++ tl) := hq
  unfold lstep
  by_cases h0 : eof = true ∧ data = []
  · obtain ⟨rfl, rfl⟩ := h0
    have := he rfl
    subst this
    rw [if_pos ⟨rfl, rfl⟩]
    refine .stop rfl rfl rfl (Int.le_refl _) (by simp) rfl rfl
  rw [if_neg h0]
  cases hf : nlAt data with
  | some i =>
    have h1 := nl_lt hf
    refine .tok _ rfl rfl ?_
    unfold lout
    rw [nl_part tl hf]
    simp only
    rw [List.take_append_of_le_length (by omega), List.drop_append_of_le_length (by omega)]
    rfl
  | none =>
    simp only
    cases eof with
    | false =>
      rw [if_neg (by simp)]
      refine .more rfl rfl rfl (Int.le_refl _) (by show (0 : Int) ≤ (data.length : Int); omega) ?_
      rfl
    | true =>
      have := he rfl
      subst this
      have hne : data ≠ [] := fun h => h0 ⟨rfl, h⟩
      rw [if_pos rfl, List.append_nil]
      refine .tok _ rfl rfl ?_
      unfold lout
      rw [hf]
      simp only
      rw [if_neg hne, show ((data.length : Int)).toNat = data.length by omega, List.drop_length]
      rfl
end Go.HE
