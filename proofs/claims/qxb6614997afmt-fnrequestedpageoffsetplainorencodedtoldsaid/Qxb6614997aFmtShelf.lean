/- The shelf's contracts laid at this dump (by the guide's lay-shelf and lay-plain), and WriteByte's by hand. -/
import Derived.Shelf.Strings.Builder1
import Derived.Shelf.Strings.Builder2
import Derived.Shelf.Small.Wraps
import Derived.Shelf.Strings.BuilderF
import Derived.Shelf.Strings.BuilderK
import Derived.Shelf.Strings.Builder2Cap
import Derived.Shelf.Strings.Search1
import Derived.Shelf.Strings.Search2
import Derived.Shelf.Strings.Search3
import Derived.Shelf.Strings.Cut
import Derived.Shelf.LaysM
import Derived.Shelf.Strings.Shaped
import Derived.Shelf.Strings.Prefix
import Derived.Shelf.Strings.BuilderCap
import Derived.Test.Qxb6614997aFmtProg
namespace Go.Proofs
open Go.Shelf
def Tryf.lays169_ren : Go.Shelf.Ren := ⟨fun | 169 => 44 | n => n, fun | 70 => 78 | 9 => 9 | 0 => 0 | 72 => 80 | 37 => 39 | 127 => 87 | 3 => 3 | 5 => 5 | n => n, fun | n => n⟩
theorem Tryf.lays169 : Go.Proofs.Lays.n169 Tryf.prog Tryf.lays169_ren := {
  mixed := by kernel_rfl
  f169 := Tryf.func44.trans (congrArg some (by kernel_rfl))
  t0 := Tryf.underlying0
  a0 := Tryf.isAgg0
  z0 := Tryf.sizeOf0
  v0 := Tryf.zeroValue0
  t3 := Tryf.underlying3
  a3 := Tryf.isAgg3
  z3 := Tryf.sizeOf3
  v3 := Tryf.zeroValue3
  t9 := Tryf.underlying9
  a9 := Tryf.isAgg9
  z9 := Tryf.sizeOf9
  v9 := Tryf.zeroValue9
  t37 := Tryf.underlying39
  a37 := Tryf.isAgg39
  z37 := Tryf.sizeOf39
  v37 := Tryf.zeroValue39
  t70 := Tryf.underlying78
  a70 := Tryf.isAgg78
  z70 := Tryf.sizeOf78
  v70 := Tryf.zeroValue78
  t72 := Tryf.underlying80
  a72 := Tryf.isAgg80
  z72 := Tryf.sizeOf80
  v72 := Tryf.zeroValue80
  t127 := Tryf.underlying87
  a127 := Tryf.isAgg87
  z127 := Tryf.sizeOf87
  v127 := Tryf.zeroValue87 }
theorem Tryf.Builder_Extra_169 : Builder.Extra Tryf.prog Tryf.lays169_ren := {
  sizeBuilder := by kernel_rfl
  liesBuilder := by kernel_rfl
  t5 := Tryf.underlying5
  a5 := Tryf.isAgg5
  z5 := Tryf.sizeOf5
  v5 := Tryf.zeroValue5
  infoByte := by kernel_rfl
  cellsByte := by kernel_rfl
  sizeByte := by kernel_rfl
  neB5 := by decide }
open Go.RowKit in
theorem Tryf.Builder_String (B b : Nat) (l : List UInt8) (w : World) (h : Lib.IsBuilder 80 5 B b (Lib.byteCells l) w) (h0 : l ≠ []) :
    Calls Tryf.prog 44 #[.pointer (some ⟨b, 0, none⟩)] w fun e w' => e = .returned (.string ⟨l.toArray⟩) ∧ Below B w w' := Any.Builder_String Tryf.lays169 Tryf.Builder_Extra_169 B b l w h h0
open Go.RowKit in
theorem Tryf.Builder_String_empty (B b : Nat) (w : World) (h : Lib.IsBuilder 80 5 B b [] w) (hBw : B ≤ w.heap.size) :
    Calls Tryf.prog 44 #[.pointer (some ⟨b, 0, none⟩)] w fun e w' => e = .returned (.string ⟨#[]⟩) ∧ Below B w w' := Any.Builder_String_empty Tryf.lays169 Tryf.Builder_Extra_169 B b w h hBw
open Go.RowKit in
theorem Tryf.Builder_String_any (B b : Nat) (l : List UInt8) (w : World) (h : Lib.IsBuilder 80 5 B b (Lib.byteCells l) w) (hBw : B ≤ w.heap.size) :
    Calls Tryf.prog 44 #[.pointer (some ⟨b, 0, none⟩)] w fun e w' => e = .returned (.string ⟨l.toArray⟩) ∧ Below B w w' := Any.Builder_String_any Tryf.lays169 Tryf.Builder_Extra_169 B b l w h hBw
def Tryf.lays241_ren : Go.Shelf.Ren := ⟨fun | 241 => 51 | 277 => 55 | n => n, fun | 70 => 78 | 3 => 3 | 0 => 0 | 72 => 80 | 37 => 39 | 5 => 5 | n => n, fun | n => n⟩
theorem Tryf.lays241 : Go.Proofs.Lays.n241 Tryf.prog Tryf.lays241_ren := {
  mixed := by kernel_rfl
  f241 := Tryf.func51.trans (congrArg some (by kernel_rfl))
  f277 := Tryf.func55.trans (congrArg some (by kernel_rfl))
  t0 := Tryf.underlying0
  a0 := Tryf.isAgg0
  z0 := Tryf.sizeOf0
  v0 := Tryf.zeroValue0
  t3 := Tryf.underlying3
  a3 := Tryf.isAgg3
  z3 := Tryf.sizeOf3
  v3 := Tryf.zeroValue3
  t37 := Tryf.underlying39
  a37 := Tryf.isAgg39
  z37 := Tryf.sizeOf39
  v37 := Tryf.zeroValue39
  t70 := Tryf.underlying78
  a70 := Tryf.isAgg78
  z70 := Tryf.sizeOf78
  v70 := Tryf.zeroValue78
  t72 := Tryf.underlying80
  a72 := Tryf.isAgg80
  z72 := Tryf.sizeOf80
  v72 := Tryf.zeroValue80 }
theorem Tryf.Builder_Extra_241 : Builder.Extra Tryf.prog Tryf.lays241_ren := {
  sizeBuilder := by kernel_rfl
  liesBuilder := by kernel_rfl
  t5 := Tryf.underlying5
  a5 := Tryf.isAgg5
  z5 := Tryf.sizeOf5
  v5 := Tryf.zeroValue5
  infoByte := by kernel_rfl
  cellsByte := by kernel_rfl
  sizeByte := by kernel_rfl
  neB5 := by decide }
open Go.RowKit in
theorem Tryf.Builder_grow_fresh (B b n : Nat) (w : World) (hB : B ≤ b) (hbk : w.heap[b]? = some (.cells #[.pointer (some ⟨b, 0, none⟩), .slice none 0 0] 80 (0, 0))) (hBw : B ≤ w.heap.size) (hn : n ≤ 281474976710656) :
    Calls Tryf.prog 51 #[.pointer (some ⟨b, 0, none⟩), .int .i64 n] w fun e w' => e = .returned (.tuple #[]) ∧ (Lib.BuilderAt 80 5 B b (.pointer (some ⟨b, 0, none⟩)) [] w' ∧ Below B w w') := Any.Builder_grow_fresh Tryf.lays241 Tryf.Builder_Extra_241 B b n w hB hbk hBw hn
def Tryf.lays165_ren : Go.Shelf.Ren := ⟨fun | 165 => 42 | 240 => 50 | 241 => 51 | 276 => 54 | 277 => 55 | n => n, fun | 70 => 78 | 3 => 3 | 0 => 0 | 4 => 4 | 9 => 9 | 20 => 20 | 72 => 80 | 37 => 39 | 164 => 95 | 5 => 5 | n => n, fun | n => n⟩
theorem Tryf.lays165 : Go.Proofs.Lays.n165 Tryf.prog Tryf.lays165_ren := {
  mixed := by kernel_rfl
  f165 := Tryf.func42.trans (congrArg some (by kernel_rfl))
  f240 := Tryf.func50.trans (congrArg some (by kernel_rfl))
  f241 := Tryf.func51.trans (congrArg some (by kernel_rfl))
  f276 := Tryf.func54.trans (congrArg some (by kernel_rfl))
  f277 := Tryf.func55.trans (congrArg some (by kernel_rfl))
  t0 := Tryf.underlying0
  a0 := Tryf.isAgg0
  z0 := Tryf.sizeOf0
  v0 := Tryf.zeroValue0
  t3 := Tryf.underlying3
  a3 := Tryf.isAgg3
  z3 := Tryf.sizeOf3
  v3 := Tryf.zeroValue3
  t4 := Tryf.underlying4
  a4 := Tryf.isAgg4
  z4 := Tryf.sizeOf4
  v4 := Tryf.zeroValue4
  t9 := Tryf.underlying9
  a9 := Tryf.isAgg9
  z9 := Tryf.sizeOf9
  v9 := Tryf.zeroValue9
  t20 := Tryf.underlying20
  a20 := Tryf.isAgg20
  z20 := Tryf.sizeOf20
  v20 := Tryf.zeroValue20
  t37 := Tryf.underlying39
  a37 := Tryf.isAgg39
  z37 := Tryf.sizeOf39
  v37 := Tryf.zeroValue39
  t70 := Tryf.underlying78
  a70 := Tryf.isAgg78
  z70 := Tryf.sizeOf78
  v70 := Tryf.zeroValue78
  t72 := Tryf.underlying80
  a72 := Tryf.isAgg80
  z72 := Tryf.sizeOf80
  v72 := Tryf.zeroValue80
  t164 := Tryf.underlying95
  a164 := Tryf.isAgg95
  z164 := Tryf.sizeOf95
  v164 := Tryf.zeroValue95 }
theorem Tryf.Builder_Extra_165 : Builder.Extra Tryf.prog Tryf.lays165_ren := {
  sizeBuilder := by kernel_rfl
  liesBuilder := by kernel_rfl
  t5 := Tryf.underlying5
  a5 := Tryf.isAgg5
  z5 := Tryf.sizeOf5
  v5 := Tryf.zeroValue5
  infoByte := by kernel_rfl
  cellsByte := by kernel_rfl
  sizeByte := by kernel_rfl
  neB5 := by decide }
open Go.RowKit in
theorem Tryf.Builder_Grow_fresh (B b n : Nat) (w : World) (hB : B ≤ b) (hbk : w.heap[b]? = some (.cells #[.pointer none, .slice none 0 0] 80 (0, 0))) (hBw : B ≤ w.heap.size) (hn : n ≤ 281474976710656) :
    Calls Tryf.prog 42 #[.pointer (some ⟨b, 0, none⟩), .int .i64 n] w fun e w' => e = .returned (.tuple #[]) ∧ (Lib.BuilderAt 80 5 B b (.pointer (some ⟨b, 0, none⟩)) [] w' ∧ Below B w w') := Any.Builder_Grow_fresh Tryf.lays165 Tryf.Builder_Extra_165 B b n w hB hbk hBw hn
def Tryf.lays210_ren : Go.Shelf.Ren := ⟨fun | 210 => 30 | 206 => 35 | n => n, fun | 9 => 9 | 4 => 4 | 3 => 3 | n => n, fun | n => n⟩
theorem Tryf.lays210 : Go.Proofs.Lays.n210 Tryf.prog Tryf.lays210_ren := {
  mixed := by kernel_rfl
  f206 := Tryf.func35.trans (congrArg some (by kernel_rfl))
  f210 := Tryf.func30.trans (congrArg some (by kernel_rfl))
  t3 := Tryf.underlying3
  a3 := Tryf.isAgg3
  z3 := Tryf.sizeOf3
  v3 := Tryf.zeroValue3
  t4 := Tryf.underlying4
  a4 := Tryf.isAgg4
  z4 := Tryf.sizeOf4
  v4 := Tryf.zeroValue4
  t9 := Tryf.underlying9
  a9 := Tryf.isAgg9
  z9 := Tryf.sizeOf9
  v9 := Tryf.zeroValue9 }
open Go.RowKit in
theorem Tryf.stringslite_CutPrefix (s p : ByteArray) (w : World) :
    Calls Tryf.prog 30 #[.string s, .string p] w fun e w' => e = .returned (.tuple #[.string ⟨(Lib.trimPrefix s.data.toList p.data.toList).toArray⟩, .bool (Lib.hasPrefix s.data.toList p.data.toList)]) ∧ w' = w := Any.stringslite_CutPrefix Tryf.lays210 s p w
def Tryf.lays103_ren : Go.Shelf.Ren := ⟨fun | 103 => 22 | 210 => 30 | 206 => 35 | n => n, fun | 9 => 9 | 4 => 4 | 24 => 51 | 3 => 3 | n => n, fun | n => n⟩
theorem Tryf.lays103 : Go.Proofs.Lays.n103 Tryf.prog Tryf.lays103_ren := {
  mixed := by kernel_rfl
  f103 := Tryf.func22.trans (congrArg some (by kernel_rfl))
  f206 := Tryf.func35.trans (congrArg some (by kernel_rfl))
  f210 := Tryf.func30.trans (congrArg some (by kernel_rfl))
  t3 := Tryf.underlying3
  a3 := Tryf.isAgg3
  z3 := Tryf.sizeOf3
  v3 := Tryf.zeroValue3
  t4 := Tryf.underlying4
  a4 := Tryf.isAgg4
  z4 := Tryf.sizeOf4
  v4 := Tryf.zeroValue4
  t9 := Tryf.underlying9
  a9 := Tryf.isAgg9
  z9 := Tryf.sizeOf9
  v9 := Tryf.zeroValue9
  t24 := Tryf.underlying51
  a24 := Tryf.isAgg51
  z24 := Tryf.sizeOf51
  v24 := Tryf.zeroValue51 }
open Go.RowKit in
theorem Tryf.strings_CutPrefix (s p : ByteArray) (w : World) :
    Calls Tryf.prog 22 #[.string s, .string p] w fun e w' => e = .returned (.tuple #[.string ⟨(Lib.trimPrefix s.data.toList p.data.toList).toArray⟩, .bool (Lib.hasPrefix s.data.toList p.data.toList)]) ∧ w' = w := Any.strings_CutPrefix Tryf.lays103 s p w
open Go.RowKit in
theorem Tryf.Builder_String_f (B b : Nat) (l : List UInt8) (w : World) (h : Lib.IsBuilderF 80 5 B b (Lib.byteCells l) w) (h0 : l ≠ []) :
    Calls Tryf.prog 44 #[.pointer (some ⟨b, 0, none⟩)] w fun e w' => e = .returned (.string ⟨l.toArray⟩) ∧ (Lib.IsBuilderF 80 5 B b (Lib.byteCells l) w' ∧ Below B w w') := Any.Builder_String_f Tryf.lays169 Tryf.Builder_Extra_169 B b l w h h0
open Go.RowKit in
theorem Tryf.Builder_String_empty_f (B b : Nat) (w : World) (h : Lib.IsBuilderF 80 5 B b [] w) (hBw : B ≤ w.heap.size) :
    Calls Tryf.prog 44 #[.pointer (some ⟨b, 0, none⟩)] w fun e w' => e = .returned (.string ⟨#[]⟩) ∧ (Lib.IsBuilderF 80 5 B b [] w' ∧ Below B w w') := Any.Builder_String_empty_f Tryf.lays169 Tryf.Builder_Extra_169 B b w h hBw
open Go.RowKit in
theorem Tryf.Builder_String_any_f (B b : Nat) (l : List UInt8) (w : World) (h : Lib.IsBuilderF 80 5 B b (Lib.byteCells l) w) (hBw : B ≤ w.heap.size) :
    Calls Tryf.prog 44 #[.pointer (some ⟨b, 0, none⟩)] w fun e w' => e = .returned (.string ⟨l.toArray⟩) ∧ (Lib.IsBuilderF 80 5 B b (Lib.byteCells l) w' ∧ Below B w w') := Any.Builder_String_any_f Tryf.lays169 Tryf.Builder_Extra_169 B b l w h hBw
open Go.RowKit in
theorem Tryf.Builder_String_k (B b : Nat) (l : List UInt8) (w : World) (h : Lib.IsBuilderF 80 5 B b (Lib.byteCells l) w) (h0 : l ≠ []) :
    Calls Tryf.prog 44 #[.pointer (some ⟨b, 0, none⟩)] w fun e w' => e = .returned (.string ⟨l.toArray⟩) ∧ (Lib.IsBuilderF 80 5 B b (Lib.byteCells l) w' ∧ Below B w w' ∧ Lib.OthersKept 5 (some b) w w') := Any.Builder_String_k Tryf.lays169 Tryf.Builder_Extra_169 B b l w h h0
open Go.RowKit in
theorem Tryf.Builder_String_empty_k (B b : Nat) (w : World) (h : Lib.IsBuilderF 80 5 B b [] w) (hBw : B ≤ w.heap.size) :
    Calls Tryf.prog 44 #[.pointer (some ⟨b, 0, none⟩)] w fun e w' => e = .returned (.string ⟨#[]⟩) ∧ (Lib.IsBuilderF 80 5 B b [] w' ∧ Below B w w' ∧ Lib.OthersKept 5 (some b) w w') := Any.Builder_String_empty_k Tryf.lays169 Tryf.Builder_Extra_169 B b w h hBw
open Go.RowKit in
theorem Tryf.Builder_String_any_k (B b : Nat) (l : List UInt8) (w : World) (h : Lib.IsBuilderF 80 5 B b (Lib.byteCells l) w) (hBw : B ≤ w.heap.size) :
    Calls Tryf.prog 44 #[.pointer (some ⟨b, 0, none⟩)] w fun e w' => e = .returned (.string ⟨l.toArray⟩) ∧ (Lib.IsBuilderF 80 5 B b (Lib.byteCells l) w' ∧ Below B w w' ∧ Lib.OthersKept 5 (some b) w w') := Any.Builder_String_any_k Tryf.lays169 Tryf.Builder_Extra_169 B b l w h hBw
open Go.RowKit in
theorem Tryf.Builder_grow_fresh_cap (B b n : Nat) (w : World) (hB : B ≤ b) (hbk : w.heap[b]? = some (.cells #[.pointer (some ⟨b, 0, none⟩), .slice none 0 0] 80 (0, 0))) (hBw : B ≤ w.heap.size) (hn : n ≤ 281474976710656) :
    Calls Tryf.prog 51 #[.pointer (some ⟨b, 0, none⟩), .int .i64 n] w fun e w' => e = .returned (.tuple #[]) ∧ (Lib.BuilderAt 80 5 B b (.pointer (some ⟨b, 0, none⟩)) [] w' ∧ Below B w w') ∧ ∃ p cap, w'.cell? ⟨b, 1, none⟩ = some (.slice p 0 cap) ∧ n ≤ cap := Any.Builder_grow_fresh_cap Tryf.lays241 Tryf.Builder_Extra_241 B b n w hB hbk hBw hn
open Go.RowKit in
theorem Tryf.Builder_Grow_fresh_cap (B b n : Nat) (w : World) (hB : B ≤ b) (hbk : w.heap[b]? = some (.cells #[.pointer none, .slice none 0 0] 80 (0, 0))) (hBw : B ≤ w.heap.size) (hn : n ≤ 281474976710656) :
    Calls Tryf.prog 42 #[.pointer (some ⟨b, 0, none⟩), .int .i64 n] w fun e w' => e = .returned (.tuple #[]) ∧ (Lib.BuilderAt 80 5 B b (.pointer (some ⟨b, 0, none⟩)) [] w' ∧ Below B w w') ∧ ∃ p cap, w'.cell? ⟨b, 1, none⟩ = some (.slice p 0 cap) ∧ n ≤ cap := Any.Builder_Grow_fresh_cap Tryf.lays165 Tryf.Builder_Extra_165 B b n w hB hbk hBw hn
def Tryf.lays217_ren : Go.Shelf.Ren := ⟨fun | 217 => 46 | 266 => 52 | n => n, fun | 9 => 9 | 5 => 5 | 3 => 3 | n => n, fun | n => n⟩
theorem Tryf.lays217 : Go.Proofs.Lays.n217 Tryf.prog Tryf.lays217_ren := {
  mixed := by kernel_rfl
  f217 := Tryf.func46.trans (congrArg some (by kernel_rfl))
  f266 := Tryf.func52.trans (congrArg some (by kernel_rfl))
  t3 := Tryf.underlying3
  a3 := Tryf.isAgg3
  z3 := Tryf.sizeOf3
  v3 := Tryf.zeroValue3
  t5 := Tryf.underlying5
  a5 := Tryf.isAgg5
  z5 := Tryf.sizeOf5
  v5 := Tryf.zeroValue5
  t9 := Tryf.underlying9
  a9 := Tryf.isAgg9
  z9 := Tryf.sizeOf9
  v9 := Tryf.zeroValue9 }
open Go.RowKit Go.Lib in
theorem Tryf.stringslite_IndexByte (s : ByteArray) (c : Int) (w : World) :
    Calls Tryf.prog 46 #[.string s, .int .u8 c] w fun e w' => e = .returned (.int .i64 (Lib.indexByte s.data.toList c.toNat.toUInt8)) ∧ w' = w := Any.stringslite_IndexByte Tryf.lays217 s c w
def Tryf.lays224_ren : Go.Shelf.Ren := ⟨fun | 224 => 48 | n => n, fun | 3 => 3 | n => n, fun | n => n⟩
theorem Tryf.lays224 : Go.Proofs.Lays.n224 Tryf.prog Tryf.lays224_ren := {
  mixed := by kernel_rfl
  f224 := Tryf.func48.trans (congrArg some (by kernel_rfl))
  t3 := Tryf.underlying3
  a3 := Tryf.isAgg3
  z3 := Tryf.sizeOf3
  v3 := Tryf.zeroValue3 }
open Go.RowKit Go.Lib in
theorem Tryf.bytealg_Cutover (n : Int) (h0 : 0 ≤ n) (h1 : n < 4611686018427387904) (w : World) :
    Calls Tryf.prog 48 #[.int .i64 n] w fun e w' => e = .returned (.int .i64 ((n + 16) / 8)) ∧ w' = w := Any.bytealg_Cutover Tryf.lays224 n h0 h1 w
def Tryf.lays314_ren : Go.Shelf.Ren := ⟨fun | 314 => 53 | n => n, fun | 9 => 9 | 51 => 92 | 3 => 3 | 4 => 4 | 5 => 5 | 46 => 40 | n => n, fun | n => n⟩
theorem Tryf.lays314 : Go.Proofs.Lays.n314 Tryf.prog Tryf.lays314_ren := {
  mixed := by kernel_rfl
  f314 := Tryf.func53.trans (congrArg some (by kernel_rfl))
  t3 := Tryf.underlying3
  a3 := Tryf.isAgg3
  z3 := Tryf.sizeOf3
  v3 := Tryf.zeroValue3
  t4 := Tryf.underlying4
  a4 := Tryf.isAgg4
  z4 := Tryf.sizeOf4
  v4 := Tryf.zeroValue4
  t5 := Tryf.underlying5
  a5 := Tryf.isAgg5
  z5 := Tryf.sizeOf5
  v5 := Tryf.zeroValue5
  t9 := Tryf.underlying9
  a9 := Tryf.isAgg9
  z9 := Tryf.sizeOf9
  v9 := Tryf.zeroValue9
  t46 := Tryf.underlying40
  a46 := Tryf.isAgg40
  z46 := Tryf.sizeOf40
  v46 := Tryf.zeroValue40
  t51 := Tryf.underlying92
  a51 := Tryf.isAgg92
  z51 := Tryf.sizeOf92
  v51 := Tryf.zeroValue92 }
open Go.RowKit Go.Lib in
theorem Tryf.bytealg_hashStr (sep : ByteArray) (hs : sep.size < 4294967281) (w : World) :
    Calls Tryf.prog 53 #[.string sep] w fun e w' => e = .returned (.tuple #[.int .u32 (RK.H sep.data.toList % 4294967296), .int .u32 (16777619 ^ sep.size % 4294967296)]) ∧ w' = w := Any.bytealg_hashStr Tryf.lays314 sep hs w
def Tryf.lays267_ren : Go.Shelf.Ren := ⟨fun | 267 => 49 | 314 => 53 | n => n, fun | 9 => 9 | 3 => 3 | 146 => 93 | 51 => 92 | 4 => 4 | 5 => 5 | 46 => 40 | n => n, fun | n => n⟩
theorem Tryf.lays267 : Go.Proofs.Lays.n267 Tryf.prog Tryf.lays267_ren := {
  mixed := by kernel_rfl
  f267 := Tryf.func49.trans (congrArg some (by kernel_rfl))
  f314 := Tryf.func53.trans (congrArg some (by kernel_rfl))
  t3 := Tryf.underlying3
  a3 := Tryf.isAgg3
  z3 := Tryf.sizeOf3
  v3 := Tryf.zeroValue3
  t4 := Tryf.underlying4
  a4 := Tryf.isAgg4
  z4 := Tryf.sizeOf4
  v4 := Tryf.zeroValue4
  t5 := Tryf.underlying5
  a5 := Tryf.isAgg5
  z5 := Tryf.sizeOf5
  v5 := Tryf.zeroValue5
  t9 := Tryf.underlying9
  a9 := Tryf.isAgg9
  z9 := Tryf.sizeOf9
  v9 := Tryf.zeroValue9
  t46 := Tryf.underlying40
  a46 := Tryf.isAgg40
  z46 := Tryf.sizeOf40
  v46 := Tryf.zeroValue40
  t51 := Tryf.underlying92
  a51 := Tryf.isAgg92
  z51 := Tryf.sizeOf92
  v51 := Tryf.zeroValue92
  t146 := Tryf.underlying93
  a146 := Tryf.isAgg93
  z146 := Tryf.sizeOf93
  v146 := Tryf.zeroValue93 }
open Go.RowKit Go.Lib in
theorem Tryf.bytealg_IndexRabinKarp (s sep : ByteArray) (h1 : 1 ≤ sep.size) (h2 : sep.size ≤ s.size) (hs : s.size < 4294967281) (w : World) :
    Calls Tryf.prog 49 #[.string s, .string sep] w fun e w' => e = .returned (.int .i64 (Lib.index s.data.toList sep.data.toList)) ∧ w' = w := Any.bytealg_IndexRabinKarp Tryf.lays267 s sep h1 h2 hs w
def Tryf.lays219_ren : Go.Shelf.Ren := ⟨fun | 219 => 38 | 217 => 46 | 225 => 47 | 224 => 48 | 267 => 49 | 266 => 52 | 314 => 53 | n => n, fun | 9 => 9 | 3 => 3 | 4 => 4 | 5 => 5 | 46 => 40 | 146 => 93 | 51 => 92 | n => n, fun | 1 => 0 | n => n⟩
theorem Tryf.lays219 : Go.Proofs.Lays.n219 Tryf.prog Tryf.lays219_ren := {
  mixed := by kernel_rfl
  f217 := Tryf.func46.trans (congrArg some (by kernel_rfl))
  f219 := Tryf.func38.trans (congrArg some (by kernel_rfl))
  f224 := Tryf.func48.trans (congrArg some (by kernel_rfl))
  f225 := Tryf.func47.trans (congrArg some (by kernel_rfl))
  f266 := Tryf.func52.trans (congrArg some (by kernel_rfl))
  f267 := Tryf.func49.trans (congrArg some (by kernel_rfl))
  f314 := Tryf.func53.trans (congrArg some (by kernel_rfl))
  t3 := Tryf.underlying3
  a3 := Tryf.isAgg3
  z3 := Tryf.sizeOf3
  v3 := Tryf.zeroValue3
  t4 := Tryf.underlying4
  a4 := Tryf.isAgg4
  z4 := Tryf.sizeOf4
  v4 := Tryf.zeroValue4
  t5 := Tryf.underlying5
  a5 := Tryf.isAgg5
  z5 := Tryf.sizeOf5
  v5 := Tryf.zeroValue5
  t9 := Tryf.underlying9
  a9 := Tryf.isAgg9
  z9 := Tryf.sizeOf9
  v9 := Tryf.zeroValue9
  t46 := Tryf.underlying40
  a46 := Tryf.isAgg40
  z46 := Tryf.sizeOf40
  v46 := Tryf.zeroValue40
  t51 := Tryf.underlying92
  a51 := Tryf.isAgg92
  z51 := Tryf.sizeOf92
  v51 := Tryf.zeroValue92
  t146 := Tryf.underlying93
  a146 := Tryf.isAgg93
  z146 := Tryf.sizeOf93
  v146 := Tryf.zeroValue93
  g1 := by kernel_rfl }
open Go.RowKit Go.Lib in
theorem Tryf.stringslite_Index_one (s : ByteArray) (c : UInt8) (w : World) :
    Calls Tryf.prog 38 #[.string s, .string ⟨#[c]⟩] w fun e w' => e = .returned (.int .i64 (Lib.indexByte s.data.toList c)) ∧ w' = w := Any.stringslite_Index_one Tryf.lays219 s c w
open Go.RowKit Go.Lib in
theorem Tryf.stringslite_Index (s sub : ByteArray) (m : Int) (w : World) (hs : s.size < 4294967281) (hm : w.cell? ⟨0, 0, none⟩ = some (.int .i64 m)) :
    Calls Tryf.prog 38 #[.string s, .string sub] w fun e w' => e = .returned (.int .i64 (Lib.index s.data.toList sub.data.toList)) ∧ w' = w := Any.stringslite_Index Tryf.lays219 s sub m w hs hm
def Tryf.lays143_ren : Go.Shelf.Ren := ⟨fun | 143 => 32 | 219 => 38 | 217 => 46 | 225 => 47 | 224 => 48 | 267 => 49 | 266 => 52 | 314 => 53 | n => n, fun | 9 => 9 | 3 => 3 | 4 => 4 | 5 => 5 | 46 => 40 | 146 => 93 | 51 => 92 | n => n, fun | 1 => 0 | n => n⟩
theorem Tryf.lays143 : Go.Proofs.Lays.n143 Tryf.prog Tryf.lays143_ren := {
  mixed := by kernel_rfl
  f143 := Tryf.func32.trans (congrArg some (by kernel_rfl))
  f217 := Tryf.func46.trans (congrArg some (by kernel_rfl))
  f219 := Tryf.func38.trans (congrArg some (by kernel_rfl))
  f224 := Tryf.func48.trans (congrArg some (by kernel_rfl))
  f225 := Tryf.func47.trans (congrArg some (by kernel_rfl))
  f266 := Tryf.func52.trans (congrArg some (by kernel_rfl))
  f267 := Tryf.func49.trans (congrArg some (by kernel_rfl))
  f314 := Tryf.func53.trans (congrArg some (by kernel_rfl))
  t3 := Tryf.underlying3
  a3 := Tryf.isAgg3
  z3 := Tryf.sizeOf3
  v3 := Tryf.zeroValue3
  t4 := Tryf.underlying4
  a4 := Tryf.isAgg4
  z4 := Tryf.sizeOf4
  v4 := Tryf.zeroValue4
  t5 := Tryf.underlying5
  a5 := Tryf.isAgg5
  z5 := Tryf.sizeOf5
  v5 := Tryf.zeroValue5
  t9 := Tryf.underlying9
  a9 := Tryf.isAgg9
  z9 := Tryf.sizeOf9
  v9 := Tryf.zeroValue9
  t46 := Tryf.underlying40
  a46 := Tryf.isAgg40
  z46 := Tryf.sizeOf40
  v46 := Tryf.zeroValue40
  t51 := Tryf.underlying92
  a51 := Tryf.isAgg92
  z51 := Tryf.sizeOf92
  v51 := Tryf.zeroValue92
  t146 := Tryf.underlying93
  a146 := Tryf.isAgg93
  z146 := Tryf.sizeOf93
  v146 := Tryf.zeroValue93
  g1 := by kernel_rfl }
open Go.RowKit Go.Lib in
theorem Tryf.strings_Index_one (s : ByteArray) (c : UInt8) (w : World) :
    Calls Tryf.prog 32 #[.string s, .string ⟨#[c]⟩] w fun e w' => e = .returned (.int .i64 (Lib.indexByte s.data.toList c)) ∧ w' = w := Any.strings_Index_one Tryf.lays143 s c w
open Go.RowKit Go.Lib in
theorem Tryf.strings_Index (s sub : ByteArray) (m : Int) (w : World) (hs : s.size < 4294967281) (hm : w.cell? ⟨0, 0, none⟩ = some (.int .i64 m)) :
    Calls Tryf.prog 32 #[.string s, .string sub] w fun e w' => e = .returned (.int .i64 (Lib.index s.data.toList sub.data.toList)) ∧ w' = w := Any.strings_Index Tryf.lays143 s sub m w hs hm
def Tryf.lays144_ren : Go.Shelf.Ren := ⟨fun | 144 => 27 | 143 => 32 | 219 => 38 | 217 => 46 | 225 => 47 | 224 => 48 | 267 => 49 | 266 => 52 | 314 => 53 | n => n, fun | 9 => 9 | 4 => 4 | 3 => 3 | 5 => 5 | 46 => 40 | 146 => 93 | 51 => 92 | n => n, fun | 1 => 0 | n => n⟩
theorem Tryf.lays144 : Go.Proofs.Lays.n144 Tryf.prog Tryf.lays144_ren := {
  mixed := by kernel_rfl
  f143 := Tryf.func32.trans (congrArg some (by kernel_rfl))
  f144 := Tryf.func27.trans (congrArg some (by kernel_rfl))
  f217 := Tryf.func46.trans (congrArg some (by kernel_rfl))
  f219 := Tryf.func38.trans (congrArg some (by kernel_rfl))
  f224 := Tryf.func48.trans (congrArg some (by kernel_rfl))
  f225 := Tryf.func47.trans (congrArg some (by kernel_rfl))
  f266 := Tryf.func52.trans (congrArg some (by kernel_rfl))
  f267 := Tryf.func49.trans (congrArg some (by kernel_rfl))
  f314 := Tryf.func53.trans (congrArg some (by kernel_rfl))
  t3 := Tryf.underlying3
  a3 := Tryf.isAgg3
  z3 := Tryf.sizeOf3
  v3 := Tryf.zeroValue3
  t4 := Tryf.underlying4
  a4 := Tryf.isAgg4
  z4 := Tryf.sizeOf4
  v4 := Tryf.zeroValue4
  t5 := Tryf.underlying5
  a5 := Tryf.isAgg5
  z5 := Tryf.sizeOf5
  v5 := Tryf.zeroValue5
  t9 := Tryf.underlying9
  a9 := Tryf.isAgg9
  z9 := Tryf.sizeOf9
  v9 := Tryf.zeroValue9
  t46 := Tryf.underlying40
  a46 := Tryf.isAgg40
  z46 := Tryf.sizeOf40
  v46 := Tryf.zeroValue40
  t51 := Tryf.underlying92
  a51 := Tryf.isAgg92
  z51 := Tryf.sizeOf92
  v51 := Tryf.zeroValue92
  t146 := Tryf.underlying93
  a146 := Tryf.isAgg93
  z146 := Tryf.sizeOf93
  v146 := Tryf.zeroValue93
  g1 := by kernel_rfl }
open Go.RowKit Go.Lib in
theorem Tryf.strings_Contains_one (s : ByteArray) (c : UInt8) (w : World) :
    Calls Tryf.prog 27 #[.string s, .string ⟨#[c]⟩] w fun e w' => e = .returned (.bool (decide (0 ≤ Lib.indexByte s.data.toList c))) ∧ w' = w := Any.strings_Contains_one Tryf.lays144 s c w
open Go.RowKit Go.Lib in
theorem Tryf.strings_Contains (s sub : ByteArray) (m : Int) (w : World) (hs : s.size < 4294967281) (hm : w.cell? ⟨0, 0, none⟩ = some (.int .i64 m)) :
    Calls Tryf.prog 27 #[.string s, .string sub] w fun e w' => e = .returned (.bool (Lib.contains s.data.toList sub.data.toList)) ∧ w' = w := Any.strings_Contains Tryf.lays144 s sub m w hs hm
def Tryf.lays220_ren : Go.Shelf.Ren := ⟨fun | 220 => 33 | 219 => 38 | 217 => 46 | 225 => 47 | 224 => 48 | 267 => 49 | 266 => 52 | 314 => 53 | n => n, fun | 9 => 9 | 4 => 4 | 3 => 3 | 5 => 5 | 46 => 40 | 146 => 93 | 51 => 92 | n => n, fun | 1 => 0 | n => n⟩
theorem Tryf.lays220 : Go.Proofs.Lays.n220 Tryf.prog Tryf.lays220_ren := {
  mixed := by kernel_rfl
  f217 := Tryf.func46.trans (congrArg some (by kernel_rfl))
  f219 := Tryf.func38.trans (congrArg some (by kernel_rfl))
  f220 := Tryf.func33.trans (congrArg some (by kernel_rfl))
  f224 := Tryf.func48.trans (congrArg some (by kernel_rfl))
  f225 := Tryf.func47.trans (congrArg some (by kernel_rfl))
  f266 := Tryf.func52.trans (congrArg some (by kernel_rfl))
  f267 := Tryf.func49.trans (congrArg some (by kernel_rfl))
  f314 := Tryf.func53.trans (congrArg some (by kernel_rfl))
  t3 := Tryf.underlying3
  a3 := Tryf.isAgg3
  z3 := Tryf.sizeOf3
  v3 := Tryf.zeroValue3
  t4 := Tryf.underlying4
  a4 := Tryf.isAgg4
  z4 := Tryf.sizeOf4
  v4 := Tryf.zeroValue4
  t5 := Tryf.underlying5
  a5 := Tryf.isAgg5
  z5 := Tryf.sizeOf5
  v5 := Tryf.zeroValue5
  t9 := Tryf.underlying9
  a9 := Tryf.isAgg9
  z9 := Tryf.sizeOf9
  v9 := Tryf.zeroValue9
  t46 := Tryf.underlying40
  a46 := Tryf.isAgg40
  z46 := Tryf.sizeOf40
  v46 := Tryf.zeroValue40
  t51 := Tryf.underlying92
  a51 := Tryf.isAgg92
  z51 := Tryf.sizeOf92
  v51 := Tryf.zeroValue92
  t146 := Tryf.underlying93
  a146 := Tryf.isAgg93
  z146 := Tryf.sizeOf93
  v146 := Tryf.zeroValue93
  g1 := by kernel_rfl }
open Go.RowKit Go.Lib in
theorem Tryf.stringslite_Cut (s sep : ByteArray) (m : Int) (w : World) (hs : s.size < 4294967281) (hm : w.cell? ⟨0, 0, none⟩ = some (.int .i64 m)) :
    Calls Tryf.prog 33 #[.string s, .string sep] w fun e w' => e = .returned (.tuple #[.string ⟨(Lib.cut s.data.toList sep.data.toList).1.toArray⟩, .string ⟨(Lib.cut s.data.toList sep.data.toList).2.1.toArray⟩, .bool (Lib.cut s.data.toList sep.data.toList).2.2]) ∧ ∃ n, w' = w.drewN n := Any.stringslite_Cut Tryf.lays220 s sep m w hs hm
def Tryf.lays145_ren : Go.Shelf.Ren := ⟨fun | 145 => 28 | 220 => 33 | 219 => 38 | 217 => 46 | 225 => 47 | 224 => 48 | 267 => 49 | 266 => 52 | 314 => 53 | n => n, fun | 9 => 9 | 4 => 4 | 59 => 61 | 3 => 3 | 5 => 5 | 46 => 40 | 146 => 93 | 51 => 92 | n => n, fun | 1 => 0 | n => n⟩
theorem Tryf.lays145 : Go.Proofs.Lays.n145 Tryf.prog Tryf.lays145_ren := {
  mixed := by kernel_rfl
  f145 := Tryf.func28.trans (congrArg some (by kernel_rfl))
  f217 := Tryf.func46.trans (congrArg some (by kernel_rfl))
  f219 := Tryf.func38.trans (congrArg some (by kernel_rfl))
  f220 := Tryf.func33.trans (congrArg some (by kernel_rfl))
  f224 := Tryf.func48.trans (congrArg some (by kernel_rfl))
  f225 := Tryf.func47.trans (congrArg some (by kernel_rfl))
  f266 := Tryf.func52.trans (congrArg some (by kernel_rfl))
  f267 := Tryf.func49.trans (congrArg some (by kernel_rfl))
  f314 := Tryf.func53.trans (congrArg some (by kernel_rfl))
  t3 := Tryf.underlying3
  a3 := Tryf.isAgg3
  z3 := Tryf.sizeOf3
  v3 := Tryf.zeroValue3
  t4 := Tryf.underlying4
  a4 := Tryf.isAgg4
  z4 := Tryf.sizeOf4
  v4 := Tryf.zeroValue4
  t5 := Tryf.underlying5
  a5 := Tryf.isAgg5
  z5 := Tryf.sizeOf5
  v5 := Tryf.zeroValue5
  t9 := Tryf.underlying9
  a9 := Tryf.isAgg9
  z9 := Tryf.sizeOf9
  v9 := Tryf.zeroValue9
  t46 := Tryf.underlying40
  a46 := Tryf.isAgg40
  z46 := Tryf.sizeOf40
  v46 := Tryf.zeroValue40
  t51 := Tryf.underlying92
  a51 := Tryf.isAgg92
  z51 := Tryf.sizeOf92
  v51 := Tryf.zeroValue92
  t59 := Tryf.underlying61
  a59 := Tryf.isAgg61
  z59 := Tryf.sizeOf61
  v59 := Tryf.zeroValue61
  t146 := Tryf.underlying93
  a146 := Tryf.isAgg93
  z146 := Tryf.sizeOf93
  v146 := Tryf.zeroValue93
  g1 := by kernel_rfl }
open Go.RowKit Go.Lib in
theorem Tryf.strings_Cut (s sep : ByteArray) (m : Int) (w : World) (hs : s.size < 4294967281) (hm : w.cell? ⟨0, 0, none⟩ = some (.int .i64 m)) :
    Calls Tryf.prog 28 #[.string s, .string sep] w fun e w' => e = .returned (.tuple #[.string ⟨(Lib.cut s.data.toList sep.data.toList).1.toArray⟩, .string ⟨(Lib.cut s.data.toList sep.data.toList).2.1.toArray⟩, .bool (Lib.cut s.data.toList sep.data.toList).2.2]) ∧ ∃ n, w' = w.drewN n := Any.strings_Cut Tryf.lays145 s sep m w hs hm
def Tryf.laysM219_ren : Go.Shelf.Ren := ⟨fun | 219 => 38 | 217 => 46 | 225 => 47 | 224 => 48 | 267 => 49 | 266 => 52 | 314 => 53 | n => n, fun | 9 => 9 | 3 => 3 | 4 => 4 | 5 => 5 | 46 => 40 | 146 => 93 | 51 => 92 | n => n, fun | 1 => 0 | n => n⟩
theorem Tryf.laysM219 : Go.Proofs.LaysM.n219 Tryf.prog Tryf.laysM219_ren := {
  mixed := by kernel_rfl
  f217 := Tryf.func46.trans (congrArg some (by kernel_rfl))
  f219 := Tryf.func38.trans (congrArg some (by kernel_rfl))
  f224 := Tryf.func48.trans (congrArg some (by kernel_rfl))
  f225 := Tryf.func47.trans (congrArg some (by kernel_rfl))
  f266 := Tryf.func52.trans (congrArg some (by kernel_rfl))
  f267 := Tryf.func49.trans (congrArg some (by kernel_rfl))
  f314 := Tryf.func53.trans (congrArg some (by kernel_rfl))
  t3 := Tryf.underlying3
  a3 := Tryf.isAgg3
  z3 := Tryf.sizeOf3
  v3 := Tryf.zeroValue3
  t4 := Tryf.underlying4
  a4 := Tryf.isAgg4
  z4 := Tryf.sizeOf4
  v4 := Tryf.zeroValue4
  t5 := Tryf.underlying5
  a5 := Tryf.isAgg5
  z5 := Tryf.sizeOf5
  v5 := Tryf.zeroValue5
  t9 := Tryf.underlying9
  a9 := Tryf.isAgg9
  z9 := Tryf.sizeOf9
  v9 := Tryf.zeroValue9
  t46 := Tryf.underlying40
  a46 := Tryf.isAgg40
  z46 := Tryf.sizeOf40
  v46 := Tryf.zeroValue40
  t51 := Tryf.underlying92
  a51 := Tryf.isAgg92
  z51 := Tryf.sizeOf92
  v51 := Tryf.zeroValue92
  t146 := Tryf.underlying93
  a146 := Tryf.isAgg93
  z146 := Tryf.sizeOf93
  v146 := Tryf.zeroValue93
  g1 := by kernel_rfl
  i3 := by kernel_rfl
  i4 := by kernel_rfl
  i5 := by kernel_rfl
  i9 := by kernel_rfl
  i46 := by kernel_rfl
  i51 := by kernel_rfl
  i146 := by kernel_rfl
  m1 := by kernel_rfl
  s1_3 := fun w h => Go.Proofs.cell_of_shapedOpen_int (zero := #[.int .i64 0]) (t := 3) h (of_decide_eq_true (by kernel_rfl)) (by kernel_rfl) rfl (by kernel_rfl) (by kernel_rfl) Tryf.underlying3 }
open Go.RowKit Go.Lib in
theorem Tryf.stringslite_Index_shaped (s sub : ByteArray) (w : World) (h : w.ShapedOpen Tryf.prog) (hs : s.size < 4294967281) :
    Calls Tryf.prog 38 #[.string s, .string sub] w fun e w' => e = .returned (.int .i64 (Lib.index s.data.toList sub.data.toList)) ∧ w' = w := Any.stringslite_Index_shaped Tryf.laysM219 s sub w h hs
def Tryf.laysM143_ren : Go.Shelf.Ren := ⟨fun | 143 => 32 | 219 => 38 | 217 => 46 | 225 => 47 | 224 => 48 | 267 => 49 | 266 => 52 | 314 => 53 | n => n, fun | 9 => 9 | 3 => 3 | 4 => 4 | 5 => 5 | 46 => 40 | 146 => 93 | 51 => 92 | n => n, fun | 1 => 0 | n => n⟩
theorem Tryf.laysM143 : Go.Proofs.LaysM.n143 Tryf.prog Tryf.laysM143_ren := {
  mixed := by kernel_rfl
  f143 := Tryf.func32.trans (congrArg some (by kernel_rfl))
  f217 := Tryf.func46.trans (congrArg some (by kernel_rfl))
  f219 := Tryf.func38.trans (congrArg some (by kernel_rfl))
  f224 := Tryf.func48.trans (congrArg some (by kernel_rfl))
  f225 := Tryf.func47.trans (congrArg some (by kernel_rfl))
  f266 := Tryf.func52.trans (congrArg some (by kernel_rfl))
  f267 := Tryf.func49.trans (congrArg some (by kernel_rfl))
  f314 := Tryf.func53.trans (congrArg some (by kernel_rfl))
  t3 := Tryf.underlying3
  a3 := Tryf.isAgg3
  z3 := Tryf.sizeOf3
  v3 := Tryf.zeroValue3
  t4 := Tryf.underlying4
  a4 := Tryf.isAgg4
  z4 := Tryf.sizeOf4
  v4 := Tryf.zeroValue4
  t5 := Tryf.underlying5
  a5 := Tryf.isAgg5
  z5 := Tryf.sizeOf5
  v5 := Tryf.zeroValue5
  t9 := Tryf.underlying9
  a9 := Tryf.isAgg9
  z9 := Tryf.sizeOf9
  v9 := Tryf.zeroValue9
  t46 := Tryf.underlying40
  a46 := Tryf.isAgg40
  z46 := Tryf.sizeOf40
  v46 := Tryf.zeroValue40
  t51 := Tryf.underlying92
  a51 := Tryf.isAgg92
  z51 := Tryf.sizeOf92
  v51 := Tryf.zeroValue92
  t146 := Tryf.underlying93
  a146 := Tryf.isAgg93
  z146 := Tryf.sizeOf93
  v146 := Tryf.zeroValue93
  g1 := by kernel_rfl
  i3 := by kernel_rfl
  i4 := by kernel_rfl
  i5 := by kernel_rfl
  i9 := by kernel_rfl
  i46 := by kernel_rfl
  i51 := by kernel_rfl
  i146 := by kernel_rfl
  m1 := by kernel_rfl
  s1_3 := fun w h => Go.Proofs.cell_of_shapedOpen_int (zero := #[.int .i64 0]) (t := 3) h (of_decide_eq_true (by kernel_rfl)) (by kernel_rfl) rfl (by kernel_rfl) (by kernel_rfl) Tryf.underlying3 }
open Go.RowKit Go.Lib in
theorem Tryf.strings_Index_shaped (s sub : ByteArray) (w : World) (h : w.ShapedOpen Tryf.prog) (hs : s.size < 4294967281) :
    Calls Tryf.prog 32 #[.string s, .string sub] w fun e w' => e = .returned (.int .i64 (Lib.index s.data.toList sub.data.toList)) ∧ w' = w := Any.strings_Index_shaped Tryf.laysM143 s sub w h hs
def Tryf.laysM144_ren : Go.Shelf.Ren := ⟨fun | 144 => 27 | 143 => 32 | 219 => 38 | 217 => 46 | 225 => 47 | 224 => 48 | 267 => 49 | 266 => 52 | 314 => 53 | n => n, fun | 9 => 9 | 4 => 4 | 3 => 3 | 5 => 5 | 46 => 40 | 146 => 93 | 51 => 92 | n => n, fun | 1 => 0 | n => n⟩
theorem Tryf.laysM144 : Go.Proofs.LaysM.n144 Tryf.prog Tryf.laysM144_ren := {
  mixed := by kernel_rfl
  f143 := Tryf.func32.trans (congrArg some (by kernel_rfl))
  f144 := Tryf.func27.trans (congrArg some (by kernel_rfl))
  f217 := Tryf.func46.trans (congrArg some (by kernel_rfl))
  f219 := Tryf.func38.trans (congrArg some (by kernel_rfl))
  f224 := Tryf.func48.trans (congrArg some (by kernel_rfl))
  f225 := Tryf.func47.trans (congrArg some (by kernel_rfl))
  f266 := Tryf.func52.trans (congrArg some (by kernel_rfl))
  f267 := Tryf.func49.trans (congrArg some (by kernel_rfl))
  f314 := Tryf.func53.trans (congrArg some (by kernel_rfl))
  t3 := Tryf.underlying3
  a3 := Tryf.isAgg3
  z3 := Tryf.sizeOf3
  v3 := Tryf.zeroValue3
  t4 := Tryf.underlying4
  a4 := Tryf.isAgg4
  z4 := Tryf.sizeOf4
  v4 := Tryf.zeroValue4
  t5 := Tryf.underlying5
  a5 := Tryf.isAgg5
  z5 := Tryf.sizeOf5
  v5 := Tryf.zeroValue5
  t9 := Tryf.underlying9
  a9 := Tryf.isAgg9
  z9 := Tryf.sizeOf9
  v9 := Tryf.zeroValue9
  t46 := Tryf.underlying40
  a46 := Tryf.isAgg40
  z46 := Tryf.sizeOf40
  v46 := Tryf.zeroValue40
  t51 := Tryf.underlying92
  a51 := Tryf.isAgg92
  z51 := Tryf.sizeOf92
  v51 := Tryf.zeroValue92
  t146 := Tryf.underlying93
  a146 := Tryf.isAgg93
  z146 := Tryf.sizeOf93
  v146 := Tryf.zeroValue93
  g1 := by kernel_rfl
  i3 := by kernel_rfl
  i4 := by kernel_rfl
  i5 := by kernel_rfl
  i9 := by kernel_rfl
  i46 := by kernel_rfl
  i51 := by kernel_rfl
  i146 := by kernel_rfl
  m1 := by kernel_rfl
  s1_3 := fun w h => Go.Proofs.cell_of_shapedOpen_int (zero := #[.int .i64 0]) (t := 3) h (of_decide_eq_true (by kernel_rfl)) (by kernel_rfl) rfl (by kernel_rfl) (by kernel_rfl) Tryf.underlying3 }
open Go.RowKit Go.Lib in
theorem Tryf.strings_Contains_shaped (s sub : ByteArray) (w : World) (h : w.ShapedOpen Tryf.prog) (hs : s.size < 4294967281) :
    Calls Tryf.prog 27 #[.string s, .string sub] w fun e w' => e = .returned (.bool (Lib.contains s.data.toList sub.data.toList)) ∧ w' = w := Any.strings_Contains_shaped Tryf.laysM144 s sub w h hs
def Tryf.laysM220_ren : Go.Shelf.Ren := ⟨fun | 220 => 33 | 219 => 38 | 217 => 46 | 225 => 47 | 224 => 48 | 267 => 49 | 266 => 52 | 314 => 53 | n => n, fun | 9 => 9 | 4 => 4 | 3 => 3 | 5 => 5 | 46 => 40 | 146 => 93 | 51 => 92 | n => n, fun | 1 => 0 | n => n⟩
theorem Tryf.laysM220 : Go.Proofs.LaysM.n220 Tryf.prog Tryf.laysM220_ren := {
  mixed := by kernel_rfl
  f217 := Tryf.func46.trans (congrArg some (by kernel_rfl))
  f219 := Tryf.func38.trans (congrArg some (by kernel_rfl))
  f220 := Tryf.func33.trans (congrArg some (by kernel_rfl))
  f224 := Tryf.func48.trans (congrArg some (by kernel_rfl))
  f225 := Tryf.func47.trans (congrArg some (by kernel_rfl))
  f266 := Tryf.func52.trans (congrArg some (by kernel_rfl))
  f267 := Tryf.func49.trans (congrArg some (by kernel_rfl))
  f314 := Tryf.func53.trans (congrArg some (by kernel_rfl))
  t3 := Tryf.underlying3
  a3 := Tryf.isAgg3
  z3 := Tryf.sizeOf3
  v3 := Tryf.zeroValue3
  t4 := Tryf.underlying4
  a4 := Tryf.isAgg4
  z4 := Tryf.sizeOf4
  v4 := Tryf.zeroValue4
  t5 := Tryf.underlying5
  a5 := Tryf.isAgg5
  z5 := Tryf.sizeOf5
  v5 := Tryf.zeroValue5
  t9 := Tryf.underlying9
  a9 := Tryf.isAgg9
  z9 := Tryf.sizeOf9
  v9 := Tryf.zeroValue9
  t46 := Tryf.underlying40
  a46 := Tryf.isAgg40
  z46 := Tryf.sizeOf40
  v46 := Tryf.zeroValue40
  t51 := Tryf.underlying92
  a51 := Tryf.isAgg92
  z51 := Tryf.sizeOf92
  v51 := Tryf.zeroValue92
  t146 := Tryf.underlying93
  a146 := Tryf.isAgg93
  z146 := Tryf.sizeOf93
  v146 := Tryf.zeroValue93
  g1 := by kernel_rfl
  i3 := by kernel_rfl
  i4 := by kernel_rfl
  i5 := by kernel_rfl
  i9 := by kernel_rfl
  i46 := by kernel_rfl
  i51 := by kernel_rfl
  i146 := by kernel_rfl
  m1 := by kernel_rfl
  s1_3 := fun w h => Go.Proofs.cell_of_shapedOpen_int (zero := #[.int .i64 0]) (t := 3) h (of_decide_eq_true (by kernel_rfl)) (by kernel_rfl) rfl (by kernel_rfl) (by kernel_rfl) Tryf.underlying3 }
open Go.RowKit Go.Lib in
theorem Tryf.stringslite_Cut_shaped (s sep : ByteArray) (w : World) (h : w.ShapedOpen Tryf.prog) (hs : s.size < 4294967281) :
    Calls Tryf.prog 33 #[.string s, .string sep] w fun e w' => e = .returned (.tuple #[.string ⟨(Lib.cut s.data.toList sep.data.toList).1.toArray⟩, .string ⟨(Lib.cut s.data.toList sep.data.toList).2.1.toArray⟩, .bool (Lib.cut s.data.toList sep.data.toList).2.2]) ∧ ∃ n, w' = w.drewN n := Any.stringslite_Cut_shaped Tryf.laysM220 s sep w h hs
def Tryf.laysM145_ren : Go.Shelf.Ren := ⟨fun | 145 => 28 | 220 => 33 | 219 => 38 | 217 => 46 | 225 => 47 | 224 => 48 | 267 => 49 | 266 => 52 | 314 => 53 | n => n, fun | 9 => 9 | 4 => 4 | 59 => 61 | 3 => 3 | 5 => 5 | 46 => 40 | 146 => 93 | 51 => 92 | n => n, fun | 1 => 0 | n => n⟩
theorem Tryf.laysM145 : Go.Proofs.LaysM.n145 Tryf.prog Tryf.laysM145_ren := {
  mixed := by kernel_rfl
  f145 := Tryf.func28.trans (congrArg some (by kernel_rfl))
  f217 := Tryf.func46.trans (congrArg some (by kernel_rfl))
  f219 := Tryf.func38.trans (congrArg some (by kernel_rfl))
  f220 := Tryf.func33.trans (congrArg some (by kernel_rfl))
  f224 := Tryf.func48.trans (congrArg some (by kernel_rfl))
  f225 := Tryf.func47.trans (congrArg some (by kernel_rfl))
  f266 := Tryf.func52.trans (congrArg some (by kernel_rfl))
  f267 := Tryf.func49.trans (congrArg some (by kernel_rfl))
  f314 := Tryf.func53.trans (congrArg some (by kernel_rfl))
  t3 := Tryf.underlying3
  a3 := Tryf.isAgg3
  z3 := Tryf.sizeOf3
  v3 := Tryf.zeroValue3
  t4 := Tryf.underlying4
  a4 := Tryf.isAgg4
  z4 := Tryf.sizeOf4
  v4 := Tryf.zeroValue4
  t5 := Tryf.underlying5
  a5 := Tryf.isAgg5
  z5 := Tryf.sizeOf5
  v5 := Tryf.zeroValue5
  t9 := Tryf.underlying9
  a9 := Tryf.isAgg9
  z9 := Tryf.sizeOf9
  v9 := Tryf.zeroValue9
  t46 := Tryf.underlying40
  a46 := Tryf.isAgg40
  z46 := Tryf.sizeOf40
  v46 := Tryf.zeroValue40
  t51 := Tryf.underlying92
  a51 := Tryf.isAgg92
  z51 := Tryf.sizeOf92
  v51 := Tryf.zeroValue92
  t59 := Tryf.underlying61
  a59 := Tryf.isAgg61
  z59 := Tryf.sizeOf61
  v59 := Tryf.zeroValue61
  t146 := Tryf.underlying93
  a146 := Tryf.isAgg93
  z146 := Tryf.sizeOf93
  v146 := Tryf.zeroValue93
  g1 := by kernel_rfl
  i3 := by kernel_rfl
  i4 := by kernel_rfl
  i5 := by kernel_rfl
  i9 := by kernel_rfl
  i46 := by kernel_rfl
  i51 := by kernel_rfl
  i59 := by kernel_rfl
  i146 := by kernel_rfl
  m1 := by kernel_rfl
  s1_3 := fun w h => Go.Proofs.cell_of_shapedOpen_int (zero := #[.int .i64 0]) (t := 3) h (of_decide_eq_true (by kernel_rfl)) (by kernel_rfl) rfl (by kernel_rfl) (by kernel_rfl) Tryf.underlying3 }
open Go.RowKit Go.Lib in
theorem Tryf.strings_Cut_shaped (s sep : ByteArray) (w : World) (h : w.ShapedOpen Tryf.prog) (hs : s.size < 4294967281) :
    Calls Tryf.prog 28 #[.string s, .string sep] w fun e w' => e = .returned (.tuple #[.string ⟨(Lib.cut s.data.toList sep.data.toList).1.toArray⟩, .string ⟨(Lib.cut s.data.toList sep.data.toList).2.1.toArray⟩, .bool (Lib.cut s.data.toList sep.data.toList).2.2]) ∧ ∃ n, w' = w.drewN n := Any.strings_Cut_shaped Tryf.laysM145 s sep w h hs
def Tryf.lays206_ren : Go.Shelf.Ren := ⟨fun | 206 => 35 | n => n, fun | 9 => 9 | 4 => 4 | 3 => 3 | n => n, fun | n => n⟩
theorem Tryf.lays206 : Go.Proofs.Lays.n206 Tryf.prog Tryf.lays206_ren := {
  mixed := by kernel_rfl
  f206 := Tryf.func35.trans (congrArg some (by kernel_rfl))
  t3 := Tryf.underlying3
  a3 := Tryf.isAgg3
  z3 := Tryf.sizeOf3
  v3 := Tryf.zeroValue3
  t4 := Tryf.underlying4
  a4 := Tryf.isAgg4
  z4 := Tryf.sizeOf4
  v4 := Tryf.zeroValue4
  t9 := Tryf.underlying9
  a9 := Tryf.isAgg9
  z9 := Tryf.sizeOf9
  v9 := Tryf.zeroValue9 }
open Go.RowKit Go.Lib in
theorem Tryf.stringslite_HasPrefix (s p : ByteArray) (w : World) :
    Calls Tryf.prog 35 #[.string s, .string p] w fun e w' => e = .returned (.bool (Lib.hasPrefix s.data.toList p.data.toList)) ∧ w' = w := Any.stringslite_HasPrefix Tryf.lays206 s p w
def Tryf.lays167_ren : Go.Shelf.Ren := ⟨fun | 167 => 43 | 240 => 50 | 276 => 54 | n => n, fun | 70 => 78 | 0 => 0 | 4 => 4 | 9 => 9 | 20 => 20 | 72 => 80 | 37 => 39 | 164 => 95 | 5 => 5 | 75 => 24 | 80 => 83 | n => n, fun | n => n⟩
theorem Tryf.lays167 : Go.Proofs.Lays.n167 Tryf.prog Tryf.lays167_ren := {
  mixed := by kernel_rfl
  f167 := Tryf.func43.trans (congrArg some (by kernel_rfl))
  f240 := Tryf.func50.trans (congrArg some (by kernel_rfl))
  f276 := Tryf.func54.trans (congrArg some (by kernel_rfl))
  t0 := Tryf.underlying0
  a0 := Tryf.isAgg0
  z0 := Tryf.sizeOf0
  v0 := Tryf.zeroValue0
  t4 := Tryf.underlying4
  a4 := Tryf.isAgg4
  z4 := Tryf.sizeOf4
  v4 := Tryf.zeroValue4
  t5 := Tryf.underlying5
  a5 := Tryf.isAgg5
  z5 := Tryf.sizeOf5
  v5 := Tryf.zeroValue5
  t9 := Tryf.underlying9
  a9 := Tryf.isAgg9
  z9 := Tryf.sizeOf9
  v9 := Tryf.zeroValue9
  t20 := Tryf.underlying20
  a20 := Tryf.isAgg20
  z20 := Tryf.sizeOf20
  v20 := Tryf.zeroValue20
  t37 := Tryf.underlying39
  a37 := Tryf.isAgg39
  z37 := Tryf.sizeOf39
  v37 := Tryf.zeroValue39
  t70 := Tryf.underlying78
  a70 := Tryf.isAgg78
  z70 := Tryf.sizeOf78
  v70 := Tryf.zeroValue78
  t72 := Tryf.underlying80
  a72 := Tryf.isAgg80
  z72 := Tryf.sizeOf80
  v72 := Tryf.zeroValue80
  t75 := Tryf.underlying24
  a75 := Tryf.isAgg24
  z75 := Tryf.sizeOf24
  v75 := Tryf.zeroValue24
  t164 := Tryf.underlying95
  a164 := Tryf.isAgg95
  z164 := Tryf.sizeOf95
  v164 := Tryf.zeroValue95 }
theorem Tryf.Builder_Extra_167 : Builder.Extra Tryf.prog Tryf.lays167_ren := {
  sizeBuilder := by kernel_rfl
  liesBuilder := by kernel_rfl
  t5 := Tryf.underlying5
  a5 := Tryf.isAgg5
  z5 := Tryf.sizeOf5
  v5 := Tryf.zeroValue5
  infoByte := by kernel_rfl
  cellsByte := by kernel_rfl
  sizeByte := by kernel_rfl
  neB5 := by decide }
open Go.RowKit in
theorem Tryf.Builder_WriteByte (B b : Nat) (bs : List Value) (c : Int) (w : World) (h : Lib.IsBuilder 80 5 B b bs w) (hlen : bs.length + 1 ≤ 140737488355328) (hBw : B ≤ w.heap.size) :
    Calls Tryf.prog 43 #[.pointer (some ⟨b, 0, none⟩), .int .u8 c] w fun e w' => e = .returned .nilIface ∧ (Lib.BuilderAt 80 5 B b (.pointer (some ⟨b, 0, none⟩)) (bs ++ [.int .u8 c]) w' ∧ Below B w w') := Any.Builder_WriteByte Tryf.lays167 Tryf.Builder_Extra_167 B b bs c w h hlen hBw
end Go.Proofs
