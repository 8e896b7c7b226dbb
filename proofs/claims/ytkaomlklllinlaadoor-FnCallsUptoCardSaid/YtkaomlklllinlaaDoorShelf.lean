/- What the library's own contracts need of the program: bytes.IndexByte, utf8.DecodeRune. Conditions: those of the contracts. -/
import Derived.Test.YtkaomlklllinlaaDoorAll
import Derived.Test.YtkaomlklllinlaaDoorWordsP
import Derived.Shelf.Bytes.IndexByte
import Derived.Shelf.Spec.DecodeRune
set_option maxRecDepth 100000
namespace Go.HE
open Go.RowKit Go.Proofs Go.Shelf

def ix_ren : Ren where
  f := fun
    | 187 => 81
    | 255 => 87
    | n => n
  t := fun
    | 37 => 78
    | 5 => 5
    | 3 => 3
    | n => n
  g := fun n => n
theorem ix : Go.Proofs.Lays.n187 Tryd.prog ix_ren where
  mixed := by kernel_rfl
  f187 := Tryd.func81.trans (congrArg some (by kernel_rfl))
  f255 := Tryd.func87.trans (congrArg some (by kernel_rfl))
  t3 := Tryd.underlying3
  a3 := Tryd.isAgg3
  z3 := Tryd.sizeOf3
  v3 := Tryd.zeroValue3
  t5 := Tryd.underlying5
  a5 := Tryd.isAgg5
  z5 := Tryd.sizeOf5
  v5 := Tryd.zeroValue5
  t37 := Tryd.underlying78
  a37 := Tryd.isAgg78
  z37 := Tryd.sizeOf78
  v37 := Tryd.zeroValue78

def dr_ren : Ren where
  f := fun
    | 32 => 83
    | 49 => 88
    | n => n
  t := fun
    | 30 => 78
    | 21 => 21
    | 3 => 3
    | 0 => 0
    | 5 => 5
    | 4 => 4
    | 33 => 120
    | 66 => 134
    | 25 => 123
    | 69 => 137
    | 68 => 136
    | n => n
  g := fun
    | 2 => 10
    | 3 => 11
    | n => n
theorem dr : Go.Proofs.Lays7.n32 Tryd.prog dr_ren where
  mixed := by kernel_rfl
  f32 := Tryd.func83.trans (congrArg some (by kernel_rfl))
  f49 := Tryd.func88.trans (congrArg some (by kernel_rfl))
  t0 := Tryd.underlying0
  a0 := Tryd.isAgg0
  z0 := Tryd.sizeOf0
  v0 := Tryd.zeroValue0
  i0 := by kernel_rfl
  t3 := Tryd.underlying3
  a3 := Tryd.isAgg3
  z3 := Tryd.sizeOf3
  v3 := Tryd.zeroValue3
  i3 := by kernel_rfl
  t4 := Tryd.underlying4
  a4 := Tryd.isAgg4
  z4 := Tryd.sizeOf4
  v4 := Tryd.zeroValue4
  i4 := by kernel_rfl
  t5 := Tryd.underlying5
  a5 := Tryd.isAgg5
  z5 := Tryd.sizeOf5
  v5 := Tryd.zeroValue5
  i5 := by kernel_rfl
  t21 := Tryd.underlying21
  a21 := Tryd.isAgg21
  z21 := Tryd.sizeOf21
  v21 := Tryd.zeroValue21
  i21 := by kernel_rfl
  t25 := Tryd.underlying123
  a25 := Tryd.isAgg123
  z25 := Tryd.sizeOf123
  v25 := Tryd.zeroValue123
  i25 := by kernel_rfl
  t30 := Tryd.underlying78
  a30 := Tryd.isAgg78
  z30 := Tryd.sizeOf78
  v30 := Tryd.zeroValue78
  i30 := by kernel_rfl
  t33 := Tryd.underlying120
  a33 := Tryd.isAgg120
  z33 := Tryd.sizeOf120
  v33 := Tryd.zeroValue120
  i33 := by kernel_rfl
  t66 := Tryd.underlying134
  a66 := Tryd.isAgg134
  z66 := Tryd.sizeOf134
  t68 := Tryd.underlying136
  a68 := Tryd.isAgg136
  z68 := Tryd.sizeOf136
  v68 := Tryd.zeroValue136
  i68 := by kernel_rfl
  t69 := Tryd.underlying137
  a69 := Tryd.isAgg137
  z69 := Tryd.sizeOf137
  v69 := Tryd.zeroValue137
  i69 := by kernel_rfl
  g2 := by kernel_rfl
  g3 := by kernel_rfl
end Go.HE
