/- Bytes and texts in memory: small lemmas. No condition. -/
import Derived.Test.YtjalppojdomcoaaDoorHelp
set_option maxRecDepth 100000
namespace Go.HE
open Go.RowKit Go.Proofs

theorem bv_dec (a b : UInt8) : (((a.toNat : Nat) : Int) = ((b.toNat : Nat) : Int)) ↔ a = b := by
  constructor
  · intro h
    exact UInt8.toNat_inj.1 (by omega)
  · rintro rfl; rfl

theorem getLast_take {text : List UInt8} {i : Nat} (h0 : 0 < i) (h : i ≤ text.length) : (text.take i).getLast? = text[i - 1]? := by
  rw [List.getLast?_eq_getElem?, List.length_take, Nat.min_eq_left h, List.getElem?_take_of_lt (by omega)]
theorem take_snoc {text : List UInt8} {i : Nat} (hx : i < text.length) : text.take (i + 1) = text.take i ++ [text[i]] := by
  rw [List.take_add_one, List.getElem?_eq_getElem hx]; rfl
theorem sub_one {text : List UInt8} {i : Nat} (hx : i < text.length) : sub text ((i : Int)).toNat ((i : Int) + 1).toNat = [text[i]] := by
  have e1 : ((i : Int)).toNat = i := by omega
  have e2 : ((i : Int) + 1).toNat = i + 1 := by omega
  rw [e1, e2]
  unfold sub
  rw [List.drop_eq_getElem_cons hx, Nat.add_sub_cancel_left]
  rfl
theorem cell_at {cells : List Value} {off i : Nat} {data : List UInt8} (hdat : (cells.drop off).take data.length = bcells data) (h : i < data.length) : cells[off + i]? = some (bv data[i]) := by
  have := congrArg (·[i]?) hdat
  simp only [List.getElem?_take_of_lt h, List.getElem?_drop] at this
  rw [this]; simp [bcells, h]
theorem strO_last {ts : List (List UInt8)} {t : List UInt8} {sp : List Value} : (strO (ts ++ [t]) sp).cells[0 + (((ts.length + 1 : Nat) : Int) - 1).toNat]? = some (str t) := by
  have e : 0 + (((ts.length + 1 : Nat) : Int) - 1).toNat = ts.length := by omega
  rw [e]
  show ((ts ++ [t]).map str ++ sp)[ts.length]? = _
  simp
theorem strO_set {ts : List (List UInt8)} {t u : List UInt8} {sp : List Value} {k : Nat} (hk : k = ts.length) : (⟨(strO (ts ++ [t]) sp).cells.set k (str u), (strO (ts ++ [t]) sp).elem, (strO (ts ++ [t]) sp).fz⟩ : HO) = strO (ts ++ [u]) sp := by
  subst hk
  unfold strO
  simp

end Go.HE
