import Derived.Test.Qxb6606071aDoorE8
import Derived.Test.Qxb6606071aDoorE6
import Derived.Test.Qxb6606071aDoorE4
import Derived.Test.Qxb6606071aDoorD12
import Derived.Test.Qxb6606071aDoorD12N
/- atof64 at a number's text. -/
namespace Go.Proofs.Qxb6606071aDoor.Fl
open Go Go.RowKit

theorem zero100 : Tryd.zeroCells100 = (List.replicate 800 (Value.int .u8 0) ++ [Value.int .i64 0, Value.int .i64 0, Value.bool false, Value.bool false]).toArray := by kernel_rfl
theorem rep_at (n : Nat) (v : Value) (T : List Value) (j : Nat) : ((List.replicate n v ++ T).toArray)[j]? = if j < n then some v else T[j - n]? := by
  rw [List.getElem?_toArray, List.getElem?_append]
  simp only [List.length_replicate, List.getElem?_replicate]
  split
  · rfl
  · rfl
theorem dec_cell (w : World) (j : Nat) : (w.alloc (.cells Tryd.zeroCells100 100)).cell? ⟨w.heap.size, j, none⟩ = if j < 800 then some (Value.int .u8 0) else [Value.int .i64 0, Value.int .i64 0, Value.bool false, Value.bool false][j - 800]? := by
  rw [World.cell?_alloc_mark, zero100, rep_at]
theorem dec_new (w : World) : In w.heap.size false st0 (w.alloc (.cells Tryd.zeroCells100 100)) where
  dig i hi := by rw [dec_cell, if_pos hi]; rfl
  fr i hi := by rw [World.frozen?_alloc_mark]; rfl
  nd := by rw [dec_cell, if_neg (by omega)]; rfl
  dp := by rw [dec_cell, if_neg (by omega)]; rfl
  neg := by rw [dec_cell, if_neg (by omega)]; rfl
  tr := by rw [dec_cell, if_neg (by omega)]; rfl

/-- what strconv's tables hold. -/
structure FTabs (w : World) : Prop where
  pow10 : Pow10 w
  big : 13 < w.heap.size
  cheats : Cheats w.heap.size w
  powtab : PowTab w.heap.size w
  info : Info 4 w.heap.size w
  f10 : F10 w
  opt : w.cell? ⟨3, 0, none⟩ = some (.bool true)

theorem FTabs.stay {a : Nat} {w w' : World} (h : FTabs w) (ha : w.heap.size ≤ a) (hb : Below a w w') : FTabs w' := by
  have hb' : Below w.heap.size w w' := hb.mono ha
  have hz := hb.size
  have h60 := h.big
  refine ⟨h.pow10.below (by omega) hb', by omega, ?_, ?_, ?_, ?_, (hb'.cell (p := ⟨3, 0, none⟩) (by show 3 < _; omega)).trans h.opt⟩
  · obtain ⟨T, oT, cap, h1, h2, h3, h4⟩ := (h.cheats.below hb').tab
    exact ⟨T, oT, cap, by omega, by omega, h3, h4⟩
  · obtain ⟨T, oT, cap, h1, h2, h3, h4⟩ := (h.powtab.below hb').tab
    exact ⟨T, oT, cap, by omega, by omega, h3, h4⟩
  · have hi := h.info.stay hb'
    exact ⟨by omega, hi.mant, hi.expb, hi.bias⟩
  · obtain ⟨T, oT, cap, h1, h2, h3⟩ := h.f10.tab
    exact ⟨T, oT, cap, (hb'.cell (p := ⟨9, 0, none⟩) (by show 9 < _; omega)).trans h1, by omega, fun k hk => (hb'.cell (p := ⟨T, oT + k, none⟩) h2).trans (h3 k hk)⟩

/-- the sign's word. -/
def sgW (neg : Bool) : Int := if neg then 9223372036854775808 else 0
/-- floatBits' answer with its sign. -/
def fbW (neg : Bool) (S : Dst) : Int := if neg then bits BinOp.or .u64 (fbBits S).1 9223372036854775808 else (fbBits S).1
/-- atof64's answer: mantissa, exponent, is it cut, the decimal. -/
def atofF (neg : Bool) (m p : Int) (tr : Bool) (S : Dst) : Nat × Bool :=
  if m = 0 then ((bits BinOp.or .u64 (sgW neg) 0).toNat, false)
  else if 310 < p then ((bits BinOp.or .u64 (sgW neg) 9218868437227405312).toNat, true)
  else if p < -345 then ((bits BinOp.or .u64 (sgW neg) 0).toNat, false)
  else if tr = false then
    if (exF neg m p).2 then ((exF neg m p).1, false) else pfF (sgW neg) m p
  else if FloatKind.f64.format.order (pfF (sgW neg) m p).1 (pfF (sgW neg) (IntKind.u64.wrap (m + 1)) p).1 == some .eq then pfF (sgW neg) m p
  else ((fbW neg S).toNat, (fbBits S).2)

theorem exact_any (neg : Bool) (d p : Int) (hd : 0 ≤ d) (hp : -345 ≤ p ∧ p ≤ 310) (w : World) (i1 : w.cell? ⟨4, 0, none⟩ = some (.int .u64 52)) (hT : F10 w) :
    Calls Tryd.prog 57 #[.int .u64 d, .int .i64 p, .bool neg] w fun e w' => e = .returned (.tuple #[.float .f64 (exF neg d p).1, .bool (exF neg d p).2]) ∧ w' = w := by
  cases neg
  · exact exact_pos d p hd hp w i1 hT
  · exact exact_neg d p hd hp w i1 hT
theorem bits_any (neg : Bool) (S : Dst) (hS : S.nd ≠ 0 → Good S) (a G : Nat) (w : World) (h : In a neg S w) (hC : Cheats a w) (hP : PowTab a w) (hI : Info G a w) :
    Calls Tryd.prog 54 #[.pointer (some ⟨a, 0, none⟩), .pointer (some ⟨G, 0, none⟩)] w fun e w' => e = .returned (.tuple #[.int .u64 (fbW neg S), .bool (fbBits S).2]) ∧ Below a w w' := by
  cases neg
  · exact floatBits_any S hS a G w h hC hP hI
  · exact floatBits_anyN S hS a G w h hC hP hI
theorem sign_any (neg : Bool) (w : World) : Calls Tryd.prog 55 #[.bool neg] w fun e w' => e = .returned (.int .u64 (boolI neg)) ∧ w' = w := bool2U_any neg w
theorem sgW_shift (neg : Bool) : IntKind.u64.wrap (boolI neg * 9223372036854775808) = sgW neg := by cases neg <;> decide
end Go.Proofs.Qxb6606071aDoor.Fl
