/- A model of Scan: what one call of it does to a scanner's state, as a relation with fuel; no program is in sight. No condition: these are definitions and lemmas of our own. -/
import Derived.Test.YtjalppojdomcoaaDoorScan0
set_option maxRecDepth 100000
namespace Go.HE

/-- What a split function answers: an advance, a token, an error's number, its next state. -/
structure Ans (σ : Type) where
  adv : Int
  tok : Option (List UInt8)
  err : Option Nat
  st : σ

/-- A scanner's state: the split function's state, what is pending, where it begins in the buffer, the buffer's length, the greatest one, the reader, the error, the count of empty tokens. -/
structure M (σ : Type) where
  s : σ
  data : List UInt8
  start : Nat
  blen : Nat
  mx : Int
  rd : Rd
  err : Option Nat
  emp : Nat

section
variable {σ : Type} (step : σ → List UInt8 → Bool → Ans σ) (ps : List Int)

def shiftM (m : M σ) : M σ := if 0 < m.start ∧ (m.start + m.data.length = m.blen ∨ m.blen / 2 < m.start) then { m with start := 0 } else m
def newLen (m : M σ) : Nat := (min ((if m.blen * 2 = 0 then 4096 else m.blen * 2 : Nat) : Int) m.mx).toNat
def growM (m : M σ) : M σ := { m with blen := newLen m, start := 0 }
def room (m : M σ) : Nat := m.blen - (m.start + m.data.length)
def readM (m : M σ) : M σ :=
  { m with data := m.data ++ (m.rd.text.drop m.rd.at').take (rdN m.rd ps (room m)), rd := rdNext m.rd ps (room m), err := rdErr m.rd ps (room m), emp := if rdErr m.rd ps (room m) = none then 0 else m.emp }

/-- How a call of Scan ends: what it returns, the token, whether the scanner is done, its state. -/
structure End (σ : Type) where
  b : Bool
  tok : Option (List UInt8)
  dn : Bool
  m : M σ

/-- Behind the split function's part of a round: read more, or end. 'go' is the next round. -/
def Rest (go : M σ → End σ → Prop) (m : M σ) (e : End σ) : Prop :=
  if m.err ≠ none then e.b = false ∧ e.dn = false ∧ e.m = { m with data := [], start := 0 }
  else if (shiftM m).start + (shiftM m).data.length = (shiftM m).blen then
    if m.mx ≤ (m.blen : Int) then e.b = false ∧ e.dn = false ∧ e.m = { shiftM m with err := setE none 2 }
    else (newLen (shiftM m) ≤ 140737488355328 ∧ go (readM ps (growM (shiftM m))) e)
  else go (readM ps (shiftM m)) e

/-- So many rounds lead from a state to an end. -/
def Scans : Nat → M σ → End σ → Prop
  | 0, _, _ => False
  | n + 1, m, e =>
    if m.data ≠ [] ∨ m.err ≠ none then
      match (step m.s m.data (decide (m.err ≠ none))).err with
      | some c =>
        if c = 6 then e.b = (step m.s m.data (decide (m.err ≠ none))).tok.isSome ∧ e.tok = (step m.s m.data (decide (m.err ≠ none))).tok ∧ e.dn = true ∧ e.m = { m with s := (step m.s m.data (decide (m.err ≠ none))).st }
        else c < 9 ∧ e.b = false ∧ e.dn = false ∧ e.m = { m with s := (step m.s m.data (decide (m.err ≠ none))).st, err := setE m.err c }
      | none =>
        if (step m.s m.data (decide (m.err ≠ none))).adv < 0 then e.b = false ∧ e.dn = false ∧ e.m = { m with s := (step m.s m.data (decide (m.err ≠ none))).st, err := setE m.err 3 }
        else if (m.data.length : Int) < (step m.s m.data (decide (m.err ≠ none))).adv then e.b = false ∧ e.dn = false ∧ e.m = { m with s := (step m.s m.data (decide (m.err ≠ none))).st, err := setE m.err 4 }
        else
          let m1 : M σ := { m with s := (step m.s m.data (decide (m.err ≠ none))).st, data := m.data.drop (step m.s m.data (decide (m.err ≠ none))).adv.toNat, start := m.start + (step m.s m.data (decide (m.err ≠ none))).adv.toNat }
          match (step m.s m.data (decide (m.err ≠ none))).tok with
          | some t => e.b = true ∧ e.tok = some t ∧ e.dn = false ∧
              (if m.err = none ∨ 0 < (step m.s m.data (decide (m.err ≠ none))).adv then e.m = { m1 with emp := 0 } else m.emp < 100 ∧ e.m = { m1 with emp := m.emp + 1 })
          | none => Rest ps (Scans n) m1 e
    else Rest ps (Scans n) m e

/-- What stays true of a state. -/
structure MOk (W : World) (m : M σ) : Prop where
  fit : m.start + m.data.length ≤ m.blen
  big : m.blen ≤ 140737488355328
  rd : RdOk W m.rd ps
  err : ∀ k, m.err = some k → k < 9
  emp : m.emp ≤ 100
  mx : m.mx ≤ 9223372036854775807
end
end Go.HE
