/- The shelf contracts laid at this dump (by the guide's lay-shelf and lay-plain). -/
import Derived.Shelf.Small.Strs
import Derived.Shelf.Small.Wraps
import Derived.Shelf.LaysM
import Derived.Shelf.Strings.Search1
import Derived.Shelf.Strings.Search2
import Derived.Shelf.Strings.Search3
import Derived.Shelf.Strings.Cut
import Derived.Shelf.Strings.Count
import Derived.Shelf.Strings.Shaped
import Derived.Shelf.Strings.Prefix
import Derived.Shelf.Strings.Split
import Derived.Shelf.Strings.SplitShaped
import Derived.Test.Qxb6605421aDoorProg
namespace Go.Proofs
open Go.Shelf
def Tryd.lays104_ren : Go.Shelf.Ren := ⟨fun | 104 => 30 | 211 => 46 | 207 => 67 | n => n, fun | 9 => 9 | 4 => 4 | 24 => 63 | 3 => 3 | n => n, fun | n => n⟩
theorem Tryd.lays104 : Go.Proofs.Lays.n104 Tryd.prog Tryd.lays104_ren := {
  mixed := by kernel_rfl
  f104 := Tryd.func30.trans (congrArg some (by kernel_rfl))
  f207 := Tryd.func67.trans (congrArg some (by kernel_rfl))
  f211 := Tryd.func46.trans (congrArg some (by kernel_rfl))
  t3 := Tryd.underlying3
  a3 := Tryd.isAgg3
  z3 := Tryd.sizeOf3
  v3 := Tryd.zeroValue3
  t4 := Tryd.underlying4
  a4 := Tryd.isAgg4
  z4 := Tryd.sizeOf4
  v4 := Tryd.zeroValue4
  t9 := Tryd.underlying9
  a9 := Tryd.isAgg9
  z9 := Tryd.sizeOf9
  v9 := Tryd.zeroValue9
  t24 := Tryd.underlying63
  a24 := Tryd.isAgg63
  z24 := Tryd.sizeOf63
  v24 := Tryd.zeroValue63 }
open Go.RowKit in
theorem Tryd.strings_CutSuffix (s p : ByteArray) (w : World) (hs : s.size ≤ 9223372036854775807) :
    Calls Tryd.prog 30 #[.string s, .string p] w fun e w' => e = .returned (.tuple #[.string ⟨(Lib.trimSuffix s.data.toList p.data.toList).toArray⟩, .bool (Lib.hasSuffix s.data.toList p.data.toList)]) ∧ w' = w := Any.strings_CutSuffix Tryd.lays104 s p w hs
def Tryd.lays145_ren : Go.Shelf.Ren := ⟨fun | 145 => 28 | 220 => 44 | 219 => 63 | 217 => 78 | 225 => 79 | 224 => 80 | 267 => 81 | 266 => 92 | 314 => 93 | n => n, fun | 9 => 9 | 4 => 4 | 59 => 57 | 3 => 3 | 5 => 5 | 46 => 103 | 146 => 126 | 51 => 116 | n => n, fun | 1 => 3 | n => n⟩
theorem Tryd.lays145 : Go.Proofs.Lays.n145 Tryd.prog Tryd.lays145_ren := {
  mixed := by kernel_rfl
  f145 := Tryd.func28.trans (congrArg some (by kernel_rfl))
  f217 := Tryd.func78.trans (congrArg some (by kernel_rfl))
  f219 := Tryd.func63.trans (congrArg some (by kernel_rfl))
  f220 := Tryd.func44.trans (congrArg some (by kernel_rfl))
  f224 := Tryd.func80.trans (congrArg some (by kernel_rfl))
  f225 := Tryd.func79.trans (congrArg some (by kernel_rfl))
  f266 := Tryd.func92.trans (congrArg some (by kernel_rfl))
  f267 := Tryd.func81.trans (congrArg some (by kernel_rfl))
  f314 := Tryd.func93.trans (congrArg some (by kernel_rfl))
  t3 := Tryd.underlying3
  a3 := Tryd.isAgg3
  z3 := Tryd.sizeOf3
  v3 := Tryd.zeroValue3
  t4 := Tryd.underlying4
  a4 := Tryd.isAgg4
  z4 := Tryd.sizeOf4
  v4 := Tryd.zeroValue4
  t5 := Tryd.underlying5
  a5 := Tryd.isAgg5
  z5 := Tryd.sizeOf5
  v5 := Tryd.zeroValue5
  t9 := Tryd.underlying9
  a9 := Tryd.isAgg9
  z9 := Tryd.sizeOf9
  v9 := Tryd.zeroValue9
  t46 := Tryd.underlying103
  a46 := Tryd.isAgg103
  z46 := Tryd.sizeOf103
  v46 := Tryd.zeroValue103
  t51 := Tryd.underlying116
  a51 := Tryd.isAgg116
  z51 := Tryd.sizeOf116
  v51 := Tryd.zeroValue116
  t59 := Tryd.underlying57
  a59 := Tryd.isAgg57
  z59 := Tryd.sizeOf57
  v59 := Tryd.zeroValue57
  t146 := Tryd.underlying126
  a146 := Tryd.isAgg126
  z146 := Tryd.sizeOf126
  v146 := Tryd.zeroValue126
  g1 := by kernel_rfl }
open Go.RowKit Go.Lib in
theorem Tryd.strings_Cut (s sep : ByteArray) (m : Int) (w : World) (hs : s.size < 4294967281) (hm : w.cell? ⟨3, 0, none⟩ = some (.int .i64 m)) :
    Calls Tryd.prog 28 #[.string s, .string sep] w fun e w' => e = .returned (.tuple #[.string ⟨(Lib.cut s.data.toList sep.data.toList).1.toArray⟩, .string ⟨(Lib.cut s.data.toList sep.data.toList).2.1.toArray⟩, .bool (Lib.cut s.data.toList sep.data.toList).2.2]) ∧ ∃ n, w' = w.drewN n := Any.strings_Cut Tryd.lays145 s sep m w hs hm
def Tryd.lays99_ren : Go.Shelf.Ren := ⟨fun | 99 => 31 | 206 => 47 | n => n, fun | 9 => 9 | 4 => 4 | 3 => 3 | n => n, fun | n => n⟩
theorem Tryd.lays99 : Go.Proofs.Lays.n99 Tryd.prog Tryd.lays99_ren := {
  mixed := by kernel_rfl
  f99 := Tryd.func31.trans (congrArg some (by kernel_rfl))
  f206 := Tryd.func47.trans (congrArg some (by kernel_rfl))
  t3 := Tryd.underlying3
  a3 := Tryd.isAgg3
  z3 := Tryd.sizeOf3
  v3 := Tryd.zeroValue3
  t4 := Tryd.underlying4
  a4 := Tryd.isAgg4
  z4 := Tryd.sizeOf4
  v4 := Tryd.zeroValue4
  t9 := Tryd.underlying9
  a9 := Tryd.isAgg9
  z9 := Tryd.sizeOf9
  v9 := Tryd.zeroValue9 }
open Go.RowKit Go.Lib in
theorem Tryd.strings_HasPrefix (s p : ByteArray) (w : World) :
    Calls Tryd.prog 31 #[.string s, .string p] w fun e w' => e = .returned (.bool (Lib.hasPrefix s.data.toList p.data.toList)) ∧ w' = w := Any.strings_HasPrefix Tryd.lays99 s p w
def Tryd.lays147_ren : Go.Shelf.Ren := ⟨fun | 147 => 29 | 221 => 45 | 268 => 64 | 138 => 65 | 143 => 66 | 195 => 82 | 197 => 49 | 218 => 83 | 219 => 63 | 260 => 69 | 217 => 78 | 225 => 79 | 224 => 80 | 267 => 81 | 266 => 92 | 314 => 93 | n => n, fun | 9 => 9 | 3 => 3 | 31 => 61 | 4 => 4 | 0 => 0 | 105 => 79 | 21 => 21 | 5 => 5 | 46 => 103 | 119 => 112 | 139 => 115 | 138 => 114 | 146 => 126 | 51 => 116 | n => n, fun | 1 => 3 | 3 => 4 | 4 => 5 | n => n⟩
theorem Tryd.lays147 : Go.Proofs.Lays.n147 Tryd.prog Tryd.lays147_ren := {
  mixed := by kernel_rfl
  f138 := Tryd.func65.trans (congrArg some (by kernel_rfl))
  f143 := Tryd.func66.trans (congrArg some (by kernel_rfl))
  f147 := Tryd.func29.trans (congrArg some (by kernel_rfl))
  f195 := Tryd.func82.trans (congrArg some (by kernel_rfl))
  f197 := Tryd.func49.trans (congrArg some (by kernel_rfl))
  f217 := Tryd.func78.trans (congrArg some (by kernel_rfl))
  f218 := Tryd.func83.trans (congrArg some (by kernel_rfl))
  f219 := Tryd.func63.trans (congrArg some (by kernel_rfl))
  f221 := Tryd.func45.trans (congrArg some (by kernel_rfl))
  f224 := Tryd.func80.trans (congrArg some (by kernel_rfl))
  f225 := Tryd.func79.trans (congrArg some (by kernel_rfl))
  f260 := Tryd.func69.trans (congrArg some (by kernel_rfl))
  f266 := Tryd.func92.trans (congrArg some (by kernel_rfl))
  f267 := Tryd.func81.trans (congrArg some (by kernel_rfl))
  f268 := Tryd.func64.trans (congrArg some (by kernel_rfl))
  f314 := Tryd.func93.trans (congrArg some (by kernel_rfl))
  t0 := Tryd.underlying0
  a0 := Tryd.isAgg0
  z0 := Tryd.sizeOf0
  v0 := Tryd.zeroValue0
  t3 := Tryd.underlying3
  a3 := Tryd.isAgg3
  z3 := Tryd.sizeOf3
  v3 := Tryd.zeroValue3
  t4 := Tryd.underlying4
  a4 := Tryd.isAgg4
  z4 := Tryd.sizeOf4
  v4 := Tryd.zeroValue4
  t5 := Tryd.underlying5
  a5 := Tryd.isAgg5
  z5 := Tryd.sizeOf5
  v5 := Tryd.zeroValue5
  t9 := Tryd.underlying9
  a9 := Tryd.isAgg9
  z9 := Tryd.sizeOf9
  v9 := Tryd.zeroValue9
  t21 := Tryd.underlying21
  a21 := Tryd.isAgg21
  z21 := Tryd.sizeOf21
  v21 := Tryd.zeroValue21
  t31 := Tryd.underlying61
  a31 := Tryd.isAgg61
  z31 := Tryd.sizeOf61
  v31 := Tryd.zeroValue61
  t46 := Tryd.underlying103
  a46 := Tryd.isAgg103
  z46 := Tryd.sizeOf103
  v46 := Tryd.zeroValue103
  t51 := Tryd.underlying116
  a51 := Tryd.isAgg116
  z51 := Tryd.sizeOf116
  v51 := Tryd.zeroValue116
  t105 := Tryd.underlying79
  a105 := Tryd.isAgg79
  z105 := Tryd.sizeOf79
  v105 := Tryd.zeroValue79
  t119 := Tryd.underlying112
  a119 := Tryd.isAgg112
  z119 := Tryd.sizeOf112
  t138 := Tryd.underlying114
  a138 := Tryd.isAgg114
  z138 := Tryd.sizeOf114
  v138 := Tryd.zeroValue114
  t139 := Tryd.underlying115
  a139 := Tryd.isAgg115
  z139 := Tryd.sizeOf115
  v139 := Tryd.zeroValue115
  t146 := Tryd.underlying126
  a146 := Tryd.isAgg126
  z146 := Tryd.sizeOf126
  v146 := Tryd.zeroValue126
  g1 := by kernel_rfl
  g3 := by kernel_rfl
  g4 := by kernel_rfl }
open Go.RowKit Go.Lib in
theorem Tryd.strings_SplitN (s sep : ByteArray) (n : Nat) (m : Int) (w : World) (hs : s.size < 4294967281) (hm : w.cell? ⟨3, 0, none⟩ = some (.int .i64 m)) (h1 : 1 ≤ sep.size) (hn : 1 ≤ n) (hn63 : n ≤ 9223372036854775807) :
    Calls Tryd.prog 29 #[.string s, .string sep, .int .i64 n] w fun e w' =>
      e = .returned (.slice (some ⟨w.heap.size, 0, none⟩) (Lib.splitB sep 0 (min n (s.size + 1) - 1) s).length (min n (s.size + 1))) ∧ w' = w.alloc (.cells (Lib.cellsOf (Lib.splitB sep 0 (min n (s.size + 1) - 1) s) (min n (s.size + 1))) 9) := Any.strings_SplitN Tryd.lays147 (by kernel_rfl) s sep n m w hs hm h1 hn hn63
end Go.Proofs
