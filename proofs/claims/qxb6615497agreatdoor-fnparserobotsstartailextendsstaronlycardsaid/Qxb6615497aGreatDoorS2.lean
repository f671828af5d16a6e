import Derived.Test.Qxb6615497aGreatDoorProg
import Derived.Shelf.Pu.RangeError
namespace Go.Proofs
open Go.Shelf
def Tryz.laysR22_ren : Go.Shelf.Ren := ⟨fun | 22 => 102 | 25 => 122 | n => n, fun | 24 => 75 | 37 => 22 | 39 => 136 | 44 => 161 | 47 => 132 | 67 => 105 | n => n, fun | 1 => 8 | n => n⟩
theorem Tryz.laysR22 : Go.Proofs.LaysPu.n22 Tryz.prog Tryz.laysR22_ren := {
  mixed := by kernel_rfl
  f22 := Tryz.func102.trans (congrArg some (by kernel_rfl))
  f25 := Tryz.func122.trans (congrArg some (by kernel_rfl))
  t0 := Tryz.underlying0
  a0 := Tryz.isAgg0
  z0 := Tryz.sizeOf0
  v0 := Tryz.zeroValue0
  i0 := by kernel_rfl
  t3 := Tryz.underlying3
  a3 := Tryz.isAgg3
  z3 := Tryz.sizeOf3
  v3 := Tryz.zeroValue3
  i3 := by kernel_rfl
  t4 := Tryz.underlying4
  a4 := Tryz.isAgg4
  z4 := Tryz.sizeOf4
  v4 := Tryz.zeroValue4
  i4 := by kernel_rfl
  t5 := Tryz.underlying5
  a5 := Tryz.isAgg5
  z5 := Tryz.sizeOf5
  v5 := Tryz.zeroValue5
  i5 := by kernel_rfl
  t9 := Tryz.underlying9
  a9 := Tryz.isAgg9
  z9 := Tryz.sizeOf9
  v9 := Tryz.zeroValue9
  i9 := by kernel_rfl
  t24 := Tryz.underlying75
  a24 := Tryz.isAgg75
  z24 := Tryz.sizeOf75
  v24 := Tryz.zeroValue75
  i24 := by kernel_rfl
  t37 := Tryz.underlying22
  a37 := Tryz.isAgg22
  z37 := Tryz.sizeOf22
  v37 := Tryz.zeroValue22
  i37 := by kernel_rfl
  t39 := Tryz.underlying136
  a39 := Tryz.isAgg136
  z39 := Tryz.sizeOf136
  v39 := Tryz.zeroValue136
  i39 := by kernel_rfl
  t44 := Tryz.underlying161
  a44 := Tryz.isAgg161
  z44 := Tryz.sizeOf161
  v44 := Tryz.zeroValue161
  i44 := by kernel_rfl
  t47 := Tryz.underlying132
  a47 := Tryz.isAgg132
  z47 := Tryz.sizeOf132
  v47 := Tryz.zeroValue132
  i47 := by kernel_rfl
  t67 := Tryz.underlying105
  a67 := Tryz.isAgg105
  z67 := Tryz.sizeOf105
  v67 := Tryz.zeroValue105
  i67 := by kernel_rfl
  g1 := by kernel_rfl
  m1 := by kernel_rfl
}
end Go.Proofs
