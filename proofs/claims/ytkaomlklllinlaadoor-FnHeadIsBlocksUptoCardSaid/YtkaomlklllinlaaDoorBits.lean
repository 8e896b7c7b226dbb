/- Shifts and the bits of numbers, as operations. Conditions: those of the lemmas. -/
import Derived.Test.YtkaomlklllinlaaDoorHelp
set_option maxRecDepth 100000
namespace Go.HE
open Go.RowKit Go.Proofs
section
variable {P : Program} {C : Cx} {l : Env} {H : Heap} {t ty yt : TypeId} {x y : Operand} {m n : Int} {yk : IntKind}
theorem ev_shl {k : Nat} (hx : ev l x = some (.int .i64 m)) (hy : ev l y = some (.int yk k)) (hk : k ≤ 64) (h : inI (m * 2 ^ k)) : Ev P C H l (.binOp .shl t x y yt) ty (.int .i64 (m * 2 ^ k)) :=
  ev_bin hx hy (fun _ _ => by simp [eqGuard]) (fun w _ => by
    have e : min ((k : Int)).toNat IntKind.i64.bits = k := by
      have : IntKind.i64.bits = 64 := rfl
      omega
    show (if (k : Int) < 0 then runtimePanic (.error "negative shift amount") else pure (.int .i64 (IntKind.i64.wrap (m * 2 ^ (min ((k : Int)).toNat IntKind.i64.bits)))) : Sem Value).run P w = _
    rw [if_neg (by omega), e, wrap_i64 h]
    rfl)
theorem ev_shr {k : Nat} (hx : ev l x = some (.int .i64 m)) (hy : ev l y = some (.int yk k)) (hk : k ≤ 64) : Ev P C H l (.binOp .shr t x y yt) ty (.int .i64 (m / 2 ^ k)) :=
  ev_bin hx hy (fun _ _ => by simp [eqGuard]) (fun w _ => by
    have e : min ((k : Int)).toNat IntKind.i64.bits = k := by
      have : IntKind.i64.bits = 64 := rfl
      omega
    have h1 : m.fdiv (2 ^ k) = m / 2 ^ k := Int.fdiv_eq_ediv_of_nonneg _ (Int.pow_nonneg (by omega))
    show (if (k : Int) < 0 then runtimePanic (.error "negative shift amount") else pure (.int .i64 (m.fdiv (2 ^ (min ((k : Int)).toNat IntKind.i64.bits)))) : Sem Value).run P w = _
    rw [if_neg (by omega), e, h1]
    rfl)
theorem ev_or8 {a b : Nat} (hx : ev l x = some (.int .i64 ((a : Int) * 2 ^ 8))) (hy : ev l y = some (.int .i64 (b : Int))) (hb : b < 256) (ha : a < 1099511627776) : Ev P C H l (.binOp .or t x y yt) ty (.int .i64 ((a * 256 + b : Nat) : Int)) :=
  ev_bin hx hy (fun _ _ => by simp [eqGuard]) (fun w _ => by
    have e1 : ((BitVec.ofInt 64 ((a : Int) * 2 ^ 8)) ||| (BitVec.ofInt 64 (b : Int))).toNat = a * 256 + b := by
      rw [BitVec.toNat_or, BitVec.toNat_ofInt, BitVec.toNat_ofInt]
      have h1 : (((a : Int) * 2 ^ 8) % ((2 ^ 64 : Nat) : Int)).toNat = a <<< 8 := by
        rw [Nat.shiftLeft_eq, Int.emod_eq_of_lt (by omega) (by omega)]
        omega
      have h2 : ((b : Int) % ((2 ^ 64 : Nat) : Int)).toNat = b := by
        rw [Int.emod_eq_of_lt (by omega) (by omega)]
        omega
      rw [h1, h2, ← Nat.shiftLeft_add_eq_or_of_lt (by omega : b < 2 ^ 8), Nat.shiftLeft_eq]
    have e2 : IntKind.i64.wrap ((a * 256 + b : Nat) : Int) = ((a * 256 + b : Nat) : Int) := wrap_i64 ⟨by omega, by omega⟩
    show (pure (.int .i64 (IntKind.i64.wrap (((BitVec.ofInt 64 ((a : Int) * 2 ^ 8)) ||| (BitVec.ofInt 64 (b : Int))).toNat : Nat))) : Sem Value).run P w = _
    rw [e1, e2]; rfl)
end
end Go.HE
