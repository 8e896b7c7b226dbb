/- All tokens of a new scanner, by what the split function answers on whole texts. Conditions: the text has at most 2 to the 40th bytes; the reader does not fail. -/
import Derived.Test.YtkaomlklllinlaaDoorHelp
import Derived.Test.YtkaomlklllinlaaDoorPure
/- Bytes and texts in memory: small lemmas. No condition. -/
set_option maxRecDepth 100000
namespace Go.HE
open Go.RowKit Go.Proofs

theorem bv_dec (a b : UInt8) : (((a.toNat : Nat) : Int) = ((b.toNat : Nat) : Int)) ↔ a = b := by
  constructor
  · intro h
    exact UInt8.toNat_inj.1 (by omega)
  · rintro rfl; rfl

theorem getLast_take {text : List UInt8} {i : Nat} (h0 : 0 < i) (h : i ≤ text.length) : (text.take i).getLast? = text[i - 1]? := by
  rw [List.getLast?_eq_getElem?, List.length_take, Nat.min_eq_left h, List.getElem?_take_of_lt (by omega)]
theorem take_snoc {text : List UInt8} {i : Nat} (hx : i < text.length) : text.take (i + 1) = text.take i ++ [text[i]] := by
  rw [List.take_add_one, List.getElem?_eq_getElem hx]; rfl
theorem sub_one {text : List UInt8} {i : Nat} (hx : i < text.length) : sub text ((i : Int)).toNat ((i : Int) + 1).toNat = [text[i]] := by
  have e1 : ((i : Int)).toNat = i := by omega
  have e2 : ((i : Int) + 1).toNat = i + 1 := by omega
  rw [e1, e2]
  unfold sub
  rw [List.drop_eq_getElem_cons hx, Nat.add_sub_cancel_left]
  rfl
theorem cell_at {cells : List Value} {off i : Nat} {data : List UInt8} (hdat : (cells.drop off).take data.length = bcells data) (h : i < data.length) : cells[off + i]? = some (bv data[i]) := by
  have := congrArg (·[i]?) hdat
  simp only [List.getElem?_take_of_lt h, List.getElem?_drop] at this
  rw [this]; simp [bcells, h]
theorem strO_last {ts : List (List UInt8)} {t : List UInt8} {sp : List Value} : (strO (ts ++ [t]) sp).cells[0 + (((ts.length + 1 : Nat) : Int) - 1).toNat]? = some (str t) := by
  have e : 0 + (((ts.length + 1 : Nat) : Int) - 1).toNat = ts.length := by omega
  rw [e]
  show ((ts ++ [t]).map str ++ sp)[ts.length]? = _
  simp
theorem strO_set {ts : List (List UInt8)} {t u : List UInt8} {sp : List Value} {k : Nat} (hk : k = ts.length) : (⟨(strO (ts ++ [t]) sp).cells.set k (str u), (strO (ts ++ [t]) sp).elem, (strO (ts ++ [t]) sp).fz⟩ : HO) = strO (ts ++ [u]) sp := by
  subst hk
  unfold strO
  simp

end Go.HE

/- Shifts and the bits of numbers, as operations. Conditions: those of the lemmas. -/
set_option maxRecDepth 100000
namespace Go.HE
open Go.RowKit Go.Proofs
section
variable {P : Program} {C : Cx} {l : Env} {H : Heap} {t ty yt : TypeId} {x y : Operand} {m n : Int} {yk : IntKind}
theorem ev_shl {k : Nat} (hx : ev l x = some (.int .i64 m)) (hy : ev l y = some (.int yk k)) (hk : k ≤ 64) (h : inI (m * 2 ^ k)) : Ev P C H l (.binOp .shl t x y yt) ty (.int .i64 (m * 2 ^ k)) :=
  ev_bin hx hy (fun _ _ => by simp [eqGuard]) (fun w _ => by
    have e : min ((k : Int)).toNat IntKind.i64.bits = k := by
      have : IntKind.i64.bits = 64 := rfl
      omega
    show (if (k : Int) < 0 then runtimePanic (.error "negative shift amount") else pure (.int .i64 (IntKind.i64.wrap (m * 2 ^ (min ((k : Int)).toNat IntKind.i64.bits)))) : Sem Value).run P w = _
    rw [if_neg (by omega), e, wrap_i64 h]
    rfl)
theorem ev_shr {k : Nat} (hx : ev l x = some (.int .i64 m)) (hy : ev l y = some (.int yk k)) (hk : k ≤ 64) : Ev P C H l (.binOp .shr t x y yt) ty (.int .i64 (m / 2 ^ k)) :=
  ev_bin hx hy (fun _ _ => by simp [eqGuard]) (fun w _ => by
    have e : min ((k : Int)).toNat IntKind.i64.bits = k := by
      have : IntKind.i64.bits = 64 := rfl
      omega
    have h1 : m.fdiv (2 ^ k) = m / 2 ^ k := Int.fdiv_eq_ediv_of_nonneg _ (Int.pow_nonneg (by omega))
    show (if (k : Int) < 0 then runtimePanic (.error "negative shift amount") else pure (.int .i64 (m.fdiv (2 ^ (min ((k : Int)).toNat IntKind.i64.bits)))) : Sem Value).run P w = _
    rw [if_neg (by omega), e, h1]
    rfl)
theorem ev_or8 {a b : Nat} (hx : ev l x = some (.int .i64 ((a : Int) * 2 ^ 8))) (hy : ev l y = some (.int .i64 (b : Int))) (hb : b < 256) (ha : a < 1099511627776) : Ev P C H l (.binOp .or t x y yt) ty (.int .i64 ((a * 256 + b : Nat) : Int)) :=
  ev_bin hx hy (fun _ _ => by simp [eqGuard]) (fun w _ => by
    have e1 : ((BitVec.ofInt 64 ((a : Int) * 2 ^ 8)) ||| (BitVec.ofInt 64 (b : Int))).toNat = a * 256 + b := by
      rw [BitVec.toNat_or, BitVec.toNat_ofInt, BitVec.toNat_ofInt]
      have h1 : (((a : Int) * 2 ^ 8) % ((2 ^ 64 : Nat) : Int)).toNat = a <<< 8 := by
        rw [Nat.shiftLeft_eq, Int.emod_eq_of_lt (by omega) (by omega)]
        omega
      have h2 : ((b : Int) % ((2 ^ 64 : Nat) : Int)).toNat = b := by
        rw [Int.emod_eq_of_lt (by omega) (by omega)]
        omega
      rw [h1, h2, ← Nat.shiftLeft_add_eq_or_of_lt (by omega : b < 2 ^ 8), Nat.shiftLeft_eq]
    have e2 : IntKind.i64.wrap ((a * 256 + b : Nat) : Int) = ((a * 256 + b : Nat) : Int) := wrap_i64 ⟨by omega, by omega⟩
    show (pure (.int .i64 (IntKind.i64.wrap (((BitVec.ofInt 64 ((a : Int) * 2 ^ 8)) ||| (BitVec.ofInt 64 (b : Int))).toNat : Nat))) : Sem Value).run P w = _
    rw [e1, e2]; rfl)
end
end Go.HE

set_option maxRecDepth 100000
set_option maxHeartbeats 4000000
namespace Go.HE

theorem start_mi {σ : Type} {s : σ} {text : List UInt8} {pv : Value} {tog brk : Bool} {c most : Int} (h : text.length ≤ 1099511627776) : MI (limitOf c most).toNat (startM s text pv tog brk c most) := by
  unfold startM limitOf
  by_cases h0 : 0 ≤ c
  · rw [if_pos h0, if_neg (by omega)]
    refine ⟨.inl rfl, by simp, by simp, ?_, by simpa using h⟩
    show (((max (min c 1048576) most).toNat : Nat) : Int) = max (((min c 1048576).toNat : Nat) : Int) most
    omega
  · rw [if_neg h0, if_pos (by omega)]
    refine ⟨.inl rfl, by simp, by simp, ?_, by simpa using h⟩
    rfl
theorem start_rest {σ : Type} {s : σ} {text : List UInt8} {pv : Value} {tog brk : Bool} {c most : Int} : restOf (startM s text pv tog brk c most) = text ∧ (startM s text pv tog brk c most).s = s ∧ (startM s text pv tog brk c most).rd.brk = brk := by
  unfold startM; split <;> exact ⟨by simp [restOf], rfl, rfl⟩


theorem all_toks {σ : Type} {step : σ → List UInt8 → Bool → Ans σ} {Q : σ → List UInt8 → Oc σ → Prop} {c most : Int} (hg : Good step Q (limitOf c most).toNat) (ps : List Int) {s : σ} {text : List UInt8} {ts : List (List UInt8)} {err : Option Nat} (hr : Run Q s text ts err) (pv : Value) (tog : Bool) (c' most' : Int) (htl : text.length ≤ 1099511627776) (he : err ≠ some 0) (h1 : c' = c := by rfl) (h2 : most' = most := by rfl) :
    ∃ n x, Toks step ps n (startM s text pv tog false c' most') false ts x ∧ (if x = some 0 then none else x) = err := by
  subst h1 h2
  obtain ⟨e1, e2, e3⟩ := start_rest (s := s) (text := text) (pv := pv) (tog := tog) (brk := false) (c := c') (most := most')
  obtain ⟨n, x, htk, y, hy, hx⟩ := toks_of hg ps hr (startM s text pv tog false c' most') (start_mi htl) e2 e1
  refine ⟨n, x, htk, ?_⟩
  have hz : endE (startM s text pv tog false c' most').rd = 0 := by unfold endE; rw [e3]; rfl
  rw [hz] at hy
  rcases hx with ⟨rfl, rfl⟩ | ⟨c, rfl, rfl⟩
  · rcases hy with rfl | rfl <;> rfl
  · have : setE y c = some c := by rcases hy with rfl | rfl <;> simp [setE]
    rw [this, if_neg he]
end Go.HE
