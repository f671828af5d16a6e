import Derived.Test.Qxb6615497aGreatDoorE8
import Derived.Test.Qxb6615497aGreatDoorE6
import Derived.Test.Qxb6615497aGreatDoorE4
import Derived.Test.Qxb6615497aGreatDoorD12
/- atof64 at digits with at most one point. -/
namespace Go.Proofs.Qxb6615497aGreatDoor
open Go Go.RowKit

theorem zero187 : Tryz.zeroCells187 = (List.replicate 800 (Value.int .u8 0) ++ [Value.int .i64 0, Value.int .i64 0, Value.bool false, Value.bool false]).toArray := by kernel_rfl
theorem rep_at (n : Nat) (v : Value) (T : List Value) (j : Nat) : ((List.replicate n v ++ T).toArray)[j]? = if j < n then some v else T[j - n]? := by
  rw [List.getElem?_toArray, List.getElem?_append]
  simp only [List.length_replicate, List.getElem?_replicate]
  split
  · rfl
  · rfl
theorem dec_cell (w : World) (j : Nat) : (w.alloc (.cells Tryz.zeroCells187 187)).cell? ⟨w.heap.size, j, none⟩ = if j < 800 then some (Value.int .u8 0) else [Value.int .i64 0, Value.int .i64 0, Value.bool false, Value.bool false][j - 800]? := by
  rw [World.cell?_alloc_mark, zero187, rep_at]
theorem dec_new (w : World) : In w.heap.size false st0 (w.alloc (.cells Tryz.zeroCells187 187)) where
  dig i hi := by rw [dec_cell, if_pos hi]; rfl
  fr i hi := by rw [World.frozen?_alloc_mark]; rfl
  nd := by rw [dec_cell, if_neg (by omega)]; rfl
  dp := by rw [dec_cell, if_neg (by omega)]; rfl
  neg := by rw [dec_cell, if_neg (by omega)]; rfl
  tr := by rw [dec_cell, if_neg (by omega)]; rfl

/-- what strconv's tables hold. -/
structure FTabs (w : World) : Prop where
  pow10 : Pow10 w
  big : 16 < w.heap.size
  cheats : Cheats w.heap.size w
  powtab : PowTab w.heap.size w
  info : Info 11 w.heap.size w
  f10 : F10 w
  opt : w.cell? ⟨10, 0, none⟩ = some (.bool true)

theorem FTabs.stay {a : Nat} {w w' : World} (h : FTabs w) (ha : w.heap.size ≤ a) (hb : Below a w w') : FTabs w' := by
  have hb' : Below w.heap.size w w' := hb.mono ha
  have hz := hb.size
  have h60 := h.big
  refine ⟨h.pow10.below (by omega) hb', by omega, ?_, ?_, ?_, ?_, (hb'.cell (p := ⟨10, 0, none⟩) (by show 10 < _; omega)).trans h.opt⟩
  · obtain ⟨T, oT, cap, h1, h2, h3, h4⟩ := (h.cheats.below hb').tab
    exact ⟨T, oT, cap, by omega, by omega, h3, h4⟩
  · obtain ⟨T, oT, cap, h1, h2, h3, h4⟩ := (h.powtab.below hb').tab
    exact ⟨T, oT, cap, by omega, by omega, h3, h4⟩
  · have hi := h.info.stay hb'
    exact ⟨by omega, hi.mant, hi.expb, hi.bias⟩
  · obtain ⟨T, oT, cap, h1, h2, h3⟩ := h.f10.tab
    exact ⟨T, oT, cap, (hb'.cell (p := ⟨14, 0, none⟩) (by show 14 < _; omega)).trans h1, by omega, fun k hk => (hb'.cell (p := ⟨T, oT + k, none⟩) h2).trans (h3 k hk)⟩

/-- the slow road's answer. -/
def slowF (s : ByteArray) : Nat × Bool := ((fbBits (stOf s)).1.toNat, (fbBits (stOf s)).2)
def atofF (s : ByteArray) : Nat × Bool :=
  if (rfAll s).m = 0 then (0, false)
  else if 310 < rfExp (rfAll s) then (infW, true)
  else if rfExp (rfAll s) < -345 then (0, false)
  else if (rfAll s).tr = false then
    if (exF (rfAll s).m (rfExp (rfAll s))).2 then ((exF (rfAll s).m (rfExp (rfAll s))).1, false) else pfF (rfAll s).m (rfExp (rfAll s))
  else if FloatKind.f64.format.order (pfF (rfAll s).m (rfExp (rfAll s))).1 (pfF (IntKind.u64.wrap ((rfAll s).m + 1)) (rfExp (rfAll s))).1 == some .eq then pfF (rfAll s).m (rfExp (rfAll s))
  else slowF s

theorem boolI_false : boolI false = 0 := rfl
end Go.Proofs.Qxb6615497aGreatDoor
