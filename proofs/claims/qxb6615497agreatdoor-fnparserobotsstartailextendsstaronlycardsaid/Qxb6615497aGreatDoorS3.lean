import Derived.Test.Qxb6615497aGreatDoorProg
import Derived.Shelf.Strings.Search3
/- strings.Index at one byte, laid. -/
namespace Go.Proofs
open Go.Shelf
def Tryz.layI143_ren : Go.Shelf.Ren := ⟨fun | 143 => 95 | 219 => 99 | 217 => 116 | 225 => 118 | 224 => 106 | 267 => 119 | 266 => 130 | 314 => 131 | n => n, fun | 9 => 9 | 3 => 3 | 4 => 4 | 5 => 5 | 46 => 101 | 146 => 164 | 51 => 149 | n => n, fun | 1 => 6 | n => n⟩
theorem Tryz.layI143 : Go.Proofs.Lays.n143 Tryz.prog Tryz.layI143_ren := {
  mixed := by kernel_rfl
  f143 := Tryz.func95.trans (congrArg some (by kernel_rfl))
  f217 := Tryz.func116.trans (congrArg some (by kernel_rfl))
  f219 := Tryz.func99.trans (congrArg some (by kernel_rfl))
  f224 := Tryz.func106.trans (congrArg some (by kernel_rfl))
  f225 := Tryz.func118.trans (congrArg some (by kernel_rfl))
  f266 := Tryz.func130.trans (congrArg some (by kernel_rfl))
  f267 := Tryz.func119.trans (congrArg some (by kernel_rfl))
  f314 := Tryz.func131.trans (congrArg some (by kernel_rfl))
  t3 := Tryz.underlying3
  a3 := Tryz.isAgg3
  z3 := Tryz.sizeOf3
  v3 := Tryz.zeroValue3
  t4 := Tryz.underlying4
  a4 := Tryz.isAgg4
  z4 := Tryz.sizeOf4
  v4 := Tryz.zeroValue4
  t5 := Tryz.underlying5
  a5 := Tryz.isAgg5
  z5 := Tryz.sizeOf5
  v5 := Tryz.zeroValue5
  t9 := Tryz.underlying9
  a9 := Tryz.isAgg9
  z9 := Tryz.sizeOf9
  v9 := Tryz.zeroValue9
  t46 := Tryz.underlying101
  a46 := Tryz.isAgg101
  z46 := Tryz.sizeOf101
  v46 := Tryz.zeroValue101
  t51 := Tryz.underlying149
  a51 := Tryz.isAgg149
  z51 := Tryz.sizeOf149
  v51 := Tryz.zeroValue149
  t146 := Tryz.underlying164
  a146 := Tryz.isAgg164
  z146 := Tryz.sizeOf164
  v146 := Tryz.zeroValue164
  g1 := by kernel_rfl }
theorem Tryz.Index_dot (s : ByteArray) (c : UInt8) (w : World) :
    Calls Tryz.prog 99 #[.string s, .string ⟨#[c]⟩] w fun e w' => e = .returned (.int .i64 (Lib.indexByte s.data.toList c)) ∧ w' = w := Any.stringslite_Index_one { Tryz.layI143 with } s c w
end Go.Proofs
