/- All tokens of a new scanner, by what the split function answers on whole texts. Conditions: the text has at most 2 to the 40th bytes, or the limit is at most 2 to the 47th; the reader does not fail. -/
import Derived.Test.YtjalppojdomcoaaDoorHelp
import Derived.Test.YtjalppojdomcoaaDoorPure
set_option maxRecDepth 100000
set_option maxHeartbeats 4000000
namespace Go.HE

theorem start_mi2 {σ : Type} {s : σ} {text : List UInt8} {pv : Value} {tog brk : Bool} {c most : Int} (h : text.length ≤ 1099511627776 ∨ (limitOf c most).toNat ≤ 140737488355328) : MI (limitOf c most).toNat (startM s text pv tog brk c most) := by
  unfold startM
  unfold limitOf at h ⊢
  by_cases h0 : 0 ≤ c
  · rw [if_neg (show ¬ c < 0 by omega)] at h ⊢
    rw [if_pos h0]
    refine ⟨.inl rfl, by simp, by simp, ?_, h.imp (fun h => by simpa using h) (fun h => h)⟩
    show (((max (min c 1048576) most).toNat : Nat) : Int) = max (((min c 1048576).toNat : Nat) : Int) most
    omega
  · rw [if_pos (show c < 0 by omega)] at h ⊢
    rw [if_neg h0]
    refine ⟨.inl rfl, by simp, by simp, ?_, h.imp (fun h => by simpa using h) (fun h => h)⟩
    rfl
theorem start_mi {σ : Type} {s : σ} {text : List UInt8} {pv : Value} {tog brk : Bool} {c most : Int} (h : text.length ≤ 1099511627776) : MI (limitOf c most).toNat (startM s text pv tog brk c most) := start_mi2 (.inl h)
theorem start_rest {σ : Type} {s : σ} {text : List UInt8} {pv : Value} {tog brk : Bool} {c most : Int} : restOf (startM s text pv tog brk c most) = text ∧ (startM s text pv tog brk c most).s = s ∧ (startM s text pv tog brk c most).rd.brk = brk := by
  unfold startM; split <;> exact ⟨by simp [restOf], rfl, rfl⟩


theorem all_toks2 {σ : Type} {step : σ → List UInt8 → Bool → Ans σ} {Q : σ → List UInt8 → Oc σ → Prop} {c most : Int} (hg : Good step Q (limitOf c most).toNat) (ps : List Int) {s : σ} {text : List UInt8} {ts : List (List UInt8)} {err : Option Nat} (hr : Run Q s text ts err) (pv : Value) (tog : Bool) (c' most' : Int) (htl : text.length ≤ 1099511627776 ∨ (limitOf c most).toNat ≤ 140737488355328) (he : err ≠ some 0) (h1 : c' = c := by rfl) (h2 : most' = most := by rfl) :
    ∃ n x, Toks step ps n (startM s text pv tog false c' most') false ts x ∧ (if x = some 0 then none else x) = err := by
  subst h1 h2
  obtain ⟨e1, e2, e3⟩ := start_rest (s := s) (text := text) (pv := pv) (tog := tog) (brk := false) (c := c') (most := most')
  obtain ⟨n, x, htk, y, hy, hx⟩ := toks_of hg ps hr (startM s text pv tog false c' most') (start_mi2 htl) e2 e1
  refine ⟨n, x, htk, ?_⟩
  have hz : endE (startM s text pv tog false c' most').rd = 0 := by unfold endE; rw [e3]; rfl
  rw [hz] at hy
  rcases hx with ⟨rfl, rfl⟩ | ⟨c, rfl, rfl⟩
  · rcases hy with rfl | rfl <;> rfl
  · have : setE y c = some c := by rcases hy with rfl | rfl <;> simp [setE]
    rw [this, if_neg he]
theorem all_toks {σ : Type} {step : σ → List UInt8 → Bool → Ans σ} {Q : σ → List UInt8 → Oc σ → Prop} {c most : Int} (hg : Good step Q (limitOf c most).toNat) (ps : List Int) {s : σ} {text : List UInt8} {ts : List (List UInt8)} {err : Option Nat} (hr : Run Q s text ts err) (pv : Value) (tog : Bool) (c' most' : Int) (htl : text.length ≤ 1099511627776) (he : err ≠ some 0) (h1 : c' = c := by rfl) (h2 : most' = most := by rfl) :
    ∃ n x, Toks step ps n (startM s text pv tog false c' most') false ts x ∧ (if x = some 0 then none else x) = err := all_toks2 hg ps hr pv tog c' most' (.inl htl) he h1 h2
end Go.HE
