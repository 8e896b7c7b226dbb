/- Arguments of sixteen bits, opened. Conditions: the rows' own. -/
import Derived.Test.YtbmmiohamdegdaaDoorOpen
set_option maxRecDepth 100000
namespace Go.HE
open Go Go.RowKit Go.ChangeShapes Go.Proofs Go.Lib Go.Joins
section
variable {H : Type} {enc : TypeId × Value → H} {W : World}
theorem open_u16 {r : Reach} {b0 : Nat} {v : Value} {d : DataW H} {p : List MemPlace} (hv : Value.okWide Tryd.prog W r b0 42 v) (h : DataW.Trod enc Tryd.prog W 0 (fun _ => true) true 42 v d p) : ∃ n : Nat, v = .int .u16 (n : Int) ∧ d = .lit (.int .u16 (n : Int)) ∧ n ≤ 65535 := by
  obtain ⟨n, hn, hy, _, hw⟩ := open_int Tryd.underlying42 hv h
  have e : IntKind.u16.max = 65535 := by decide
  have e2 : IntKind.u16.min = 0 := by decide
  simp only [Lit.wf, Bool.and_eq_true, decide_eq_true_eq, e, e2] at hw
  obtain ⟨m, rfl⟩ := Int.eq_ofNat_of_zero_le hw.1
  exact ⟨m, hn, hy, by omega⟩
end
end Go.HE
