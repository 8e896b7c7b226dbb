/- Lists that have been put into frames, one in another one: what the law needs. No condition. -/
import Derived.Test.YtbmmiohamdegdaaDoorFnNested
import Derived.Test.YtbmmiohamdegdaaDoorFramed
set_option maxRecDepth 100000
set_option maxHeartbeats 4000000
namespace Go.HE
open Go.RowKit Go.Proofs

theorem FramesOf.uniq {w : Nat} (hw : 0 < w) {text : List UInt8} {a : List (List UInt8)} {e : Option Nat} {m : Nat} (h : FramesOf w text a e m) : ∀ {b : List (List UInt8)} {e' : Option Nat} {m' : Nat}, FramesOf w text b e' m' → a = b ∧ e = e' := by
  induction h with
  | nil =>
    intro b e' m' h2
    obtain ⟨rfl, rfl, _⟩ := h2.empty hw
    exact ⟨rfl, rfl⟩
  | @bad r h0 hb =>
    intro b e' m' h2
    cases h2 with
    | nil => exact absurd rfl h0
    | bad => exact ⟨rfl, rfl⟩
    | @cons hd t rest ts e2 m2 a1 a2 _ =>
      exfalso
      have e0 : (hd ++ t ++ rest).take w = hd := by rw [List.append_assoc, List.take_append_of_le_length (by omega), List.take_of_length_le (by omega)]
      rw [e0] at hb
      simp at hb
      omega
  | @cons hd t rest ts e m a1 a2 _ ih =>
    intro b e' m' h2
    generalize hr : hd ++ t ++ rest = r at h2
    have e0 : r.take w = hd := by rw [← hr, List.append_assoc, List.take_append_of_le_length (by omega), List.take_of_length_le (by omega)]
    have hlen := congrArg List.length hr
    simp at hlen
    cases h2 with
    | nil => simp only [List.length_nil] at hlen; omega
    | bad h0 hb =>
      rw [e0] at hb
      omega
    | @cons hd2 t2 rest2 ts2 e2 m2 b1 b2 h3 =>
      have e1 : (hd2 ++ t2 ++ rest2).take w = hd2 := by rw [List.append_assoc, List.take_append_of_le_length (by omega), List.take_of_length_le (by omega)]
      have e2' : hd = hd2 := by rw [← e0, e1]
      subst e2'
      rw [List.append_assoc, List.append_assoc] at hr
      have hr' := List.append_cancel_left hr
      obtain ⟨e3, e4⟩ := List.append_inj hr' (by omega)
      subst e3 e4
      obtain ⟨h4, h5⟩ := ih h3
      exact ⟨by rw [h4], h5⟩

/-- A list of lists of strings in old memory. -/
def RowsW (W : World) (v : Value) (lss : List (List (List UInt8))) : Prop :=
  ∃ a cap, v = .slice a lss.length cap ∧ lss.length ≤ cap ∧ ∀ (i : Nat) ls, lss[i]? = some ls → ∃ b off u, a = some ⟨b, off, none⟩ ∧ W.cell? ⟨b, off + i, none⟩ = some u ∧ Strs W [] u ls
/-- The list so far: none yet, or one of the call's own. -/
def AllAt (A : Heap) (v : Value) (xs : List (List UInt8)) : Prop := (A = [] ∧ v = .slice none 0 0 ∧ xs = []) ∨ ∃ ob sp, A = [(ob, strO xs sp)] ∧ v = .slice (some ⟨ob, 0, none⟩) xs.length (xs.length + sp.length)
theorem AllAt.strs {W : World} {A H : Heap} {v : Value} {xs : List (List UInt8)} (h : AllAt A v xs) (hs : ∀ p ∈ A, p ∈ H) : Strs W H v xs := by
  rcases h with ⟨rfl, rfl, rfl⟩ | ⟨ob, sp, rfl, rfl⟩
  · exact ⟨none, 0, rfl, by simp, fun i p h => by simp at h⟩
  · exact StrsAt.strs ⟨ob, _, sp, rfl, hs _ m0, Nat.le_add_right _ _⟩
def sizeR (lss : List (List (List UInt8))) : Nat := (lss.map fun ls => ls.flatten.length + ls.length + 1).sum
theorem sizeR_cons (ls : List (List UInt8)) (lss : List (List (List UInt8))) : sizeR (ls :: lss) = (ls.flatten.length + ls.length + 1) + sizeR lss := by simp [sizeR]
theorem sizeR_len : ∀ lss : List (List (List UInt8)), lss.length ≤ sizeR lss
  | [] => by simp [sizeR]
  | ls :: lss => by have := sizeR_len lss; rw [sizeR_cons]; simp; omega
theorem sizeR_mem : ∀ {lss : List (List (List UInt8))} {ls : List (List UInt8)}, ls ∈ lss → ls.flatten.length + ls.length + 1 ≤ sizeR lss
  | [], _, h => by cases h
  | x :: lss, ls, h => by
    rw [sizeR_cons]
    rcases List.mem_cons.1 h with rfl | h
    · omega
    · have := sizeR_mem h; omega
theorem framed_small {w : Nat} (h3 : w ≤ 3) (ls : List (List UInt8)) : (framedL w ls).length ≤ 3 * (ls.flatten.length + ls.length + 1) := by
  have h := framedL_len w ls
  have : w * ls.length ≤ 3 * ls.length := Nat.mul_le_mul_right _ h3
  omega
theorem outer_small {w : Nat} (h3 : w ≤ 3) : ∀ lss : List (List (List UInt8)), (lss.map (framedL w)).flatten.length ≤ 3 * sizeR lss
  | [] => by simp [sizeR]
  | ls :: lss => by
    have h1 := outer_small h3 lss
    have h2 := framed_small h3 ls
    rw [sizeR_cons, List.map_cons, List.flatten_cons, List.length_append]
    omega
theorem strO_all {ts : List (List UInt8)} {sp : List Value} : ((strO ts sp).cells.drop 0).take (ts.map str).length = ts.map str := by
  show (ts.map str ++ sp).take (ts.map str).length = ts.map str
  simp
end Go.HE
