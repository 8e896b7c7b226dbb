/- Fields written with escapes, and fields without escapes: plain mathematics. No condition. -/
import Derived.Test.YtkaomlklllinlaaDoorFieldsP
import Derived.Test.YtkaomlklllinlaaDoorPartsP
set_option maxRecDepth 100000
set_option maxHeartbeats 1000000
namespace Go.HE

theorem fparse_plain {dl es b : UInt8} (h1 : b ≠ es) (h2 : b ≠ dl) (X : List UInt8) : fparse dl es (b :: X) = (fparse dl es X).add b 1 := by
  cases X with
  | nil => unfold fparse; rw [if_neg h1, if_neg h2]; rfl
  | cons c r =>
    show fparse dl es (b :: c :: r) = _
    rw [fparse, if_neg h1, if_neg h2]
theorem fparse_escd {dl es b : UInt8} (X : List UInt8) : fparse dl es (es :: b :: X) = (fparse dl es X).add b 2 := by
  rw [fparse, if_pos rfl]
theorem fparse_delim {dl es : UInt8} (h : dl ≠ es) (X : List UInt8) : fparse dl es (dl :: X) = .stop [] 1 := by
  cases X with
  | nil => unfold fparse; rw [if_neg h, if_pos rfl]
  | cons c r => rw [fparse, if_neg h, if_pos rfl]

/-- A field with an escape ahead of each byte that needs one. -/
def escF (dl es : UInt8) : List UInt8 → List UInt8
  | [] => []
  | b :: r => if b = dl ∨ b = es then es :: b :: escF dl es r else b :: escF dl es r
theorem escF_append (dl es : UInt8) : ∀ x y : List UInt8, escF dl es (x ++ y) = escF dl es x ++ escF dl es y
  | [], _ => rfl
  | b :: r, y => by
    simp only [List.cons_append, escF, escF_append dl es r y]
    split <;> simp
theorem escF_len (dl es : UInt8) : ∀ x : List UInt8, (escF dl es x).length ≤ 2 * x.length
  | [] => by simp [escF]
  | b :: r => by
    have := escF_len dl es r
    unfold escF
    split <;> simp <;> omega
theorem fparse_esc {dl es : UInt8} (h : dl ≠ es) : ∀ t : List UInt8, fparse dl es (escF dl es t) = .over t ∧ ∀ rest, fparse dl es (escF dl es t ++ dl :: rest) = .stop t ((escF dl es t).length + 1)
  | [] => ⟨by simp [escF, fparse], fun rest => by simpa [escF] using fparse_delim h rest⟩
  | b :: r => by
    obtain ⟨h1, h2⟩ := fparse_esc h r
    unfold escF
    by_cases hb : b = dl ∨ b = es
    · rw [if_pos hb]
      refine ⟨by rw [fparse_escd, h1]; rfl, fun rest => ?_⟩
      rw [List.cons_append, List.cons_append, fparse_escd, h2]
      rfl
    · rw [if_neg hb]
      have hb1 : b ≠ es := fun h => hb (.inr h)
      have hb2 : b ≠ dl := fun h => hb (.inl h)
      refine ⟨by rw [fparse_plain hb1 hb2, h1]; rfl, fun rest => ?_⟩
      rw [List.cons_append, fparse_plain hb1 hb2, h2]
      rfl
theorem fields_again {dl es : UInt8} (h : dl ≠ es) : ∀ (t : List UInt8) (r : List (List UInt8)), FieldsOf dl es (escF dl es t ++ (r.map fun u => [dl] ++ escF dl es u).flatten) (t :: r) none
  | t, [] => by
    have := FieldsOf.over (fparse_esc h t).1
    simpa using this
  | t, u :: r => by
    have ih := fields_again h u r
    have hf := (fparse_esc h t).2 (escF dl es u ++ (r.map fun u => [dl] ++ escF dl es u).flatten)
    have e : escF dl es t ++ ((u :: r).map fun u => [dl] ++ escF dl es u).flatten = escF dl es t ++ dl :: (escF dl es u ++ (r.map fun u => [dl] ++ escF dl es u).flatten) := by simp
    rw [e]
    refine FieldsOf.cons hf ?_
    have e2 : (escF dl es t ++ dl :: (escF dl es u ++ (r.map fun u => [dl] ++ escF dl es u).flatten)).drop ((escF dl es t).length + 1) = escF dl es u ++ (r.map fun u => [dl] ++ escF dl es u).flatten := by
      rw [← List.drop_drop, List.drop_append_of_le_length (Nat.le_refl _), List.drop_of_length_le (Nat.le_refl _)]
      rfl
    rw [e2]; exact ih

theorem fparse_find {dl es : UInt8} : ∀ r : List UInt8, es ∉ r → fparse dl es r = match findW [dl] r with | none => .over r | some k => .stop (r.take k) (k + 1)
  | [], _ => by simp [fparse, findW]
  | b :: r, h => by
    have hb : b ≠ es := fun e => h (e ▸ List.mem_cons_self)
    have hr : es ∉ r := fun e => h (List.mem_cons_of_mem _ e)
    have ih := fparse_find (dl := dl) r hr
    by_cases hd : b = dl
    · subst hd
      rw [fparse_delim hb]
      simp [findW]
    · rw [fparse_plain hb hd, ih]
      have : ¬ ([dl].isPrefixOf (b :: r)) = true := by
        simp [List.isPrefixOf]
        exact fun h => hd h.symm
      rw [findW, if_neg this]
      cases findW [dl] r <;> rfl
theorem fields_plain {dl es : UInt8} {text : List UInt8} {ts : List (List UInt8)} (h : PartsOf [dl] text ts) (hn : es ∉ text) : FieldsOf dl es text ts none := by
  induction h with
  | last hf => exact .over (by rw [fparse_find _ hn, hf])
  | @cons r k ts hf _ ih => exact FieldsOf.cons (t := r.take k) (n := k + 1) (by rw [fparse_find _ hn, hf]) (ih fun h => hn (List.mem_of_mem_drop h))
end Go.HE
