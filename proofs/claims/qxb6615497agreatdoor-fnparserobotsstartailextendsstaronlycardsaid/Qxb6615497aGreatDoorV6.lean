import Derived.Test.Qxb6615497aGreatDoorH1
import Derived.ChangeSlices
import Derived.WideShapes
/- the body as it comes in: its bytes; it reads as before. -/
namespace Go.Proofs.Qxb6615497aGreatDoor
open Go Go.RowKit Go.ChangeShapes Go.WideShapes

theorem u8_of_wf {n : Int} (h : (Lit.int .u8 n).wf = true) : 0 ≤ n ∧ n < 256 := by
  simp [Lit.wf, IntKind.min, IntKind.max, IntKind.signed, IntKind.bits] at h
  omega
theorem u8_back {n : Int} (h : 0 ≤ n ∧ n < 256) : ((UInt8.ofNat n.toNat).toNat : Int) = n := by
  have : (UInt8.ofNat n.toNat).toNat = n.toNat := by
    rw [UInt8.toNat_ofNat']
    exact Nat.mod_eq_of_lt (by omega)
  rw [this]
  omega

set_option maxRecDepth 100000 in
theorem open_body {H : Type} {enc : TypeId × Value → H} {W : World} {base : Nat} {v0 : Value} {d0 : DataW H} {p0 : List MemPlace} (hval : Value.okWide Tryz.prog W .any base 22 v0) (h : DataW.Trod enc Tryz.prog W 0 (fun _ => true) true 22 v0 d0 p0) :
    ∃ l : List UInt8, ArgIs v0 l W ∧ l.length ≤ maxLen ∧ ∀ W', Below W.heap.size W W' → ∃ p, DataW.Trod enc Tryz.prog W' 0 (fun b => decide (b < W.heap.size)) true 22 v0 d0 p := by
  have c1 : Tryz.prog.cellsOf 5 = 1 := by kernel_rfl
  obtain ⟨q, len, cap, rfl⟩ := okWide_slice Tryz.underlying22 hval
  obtain ⟨fuel, hf⟩ := h
  rcases open_ints Tryz.underlying22 Tryz.underlying5 c1 hf with ⟨e, hx⟩ | ⟨a, len', cap', zs, e, hb, hl, hm, hz, hx, hcell, hwf⟩
  · have e' : (Value.slice q len cap) = .slice none 0 0 := by simpa [Value.cells] using e
    rw [e']
    injection hx with hx1 hx2
    subst hx1
    refine ⟨[], .inl ⟨rfl, rfl⟩, by unfold maxLen; simp, fun W' _ => ⟨[], 1, ?_⟩⟩
    simp [DataW.trod, Value.cells, Tryz.underlying22]
  · have e' : (Value.slice q len cap) = .slice (some a) len' cap' := by simpa [Value.cells] using e
    injection e' with e1 e2 e3
    subst e1 e2 e3
    simp only [if_true] at hz
    injection hx with hx1 hx2
    subst hx1
    refine ⟨(zs.take len).map fun z => UInt8.ofNat z.toNat, .inr ⟨a, cap, ?_, fun j x hj => ?_⟩, ?_, fun W' hW => ?_⟩
    · rw [List.length_map, List.length_take, Nat.min_eq_left (by omega)]
    · rw [List.getElem?_map] at hj
      obtain ⟨z, hz1, rfl⟩ := Option.map_eq_some_iff.1 hj
      have hjl : j < len := by
        have := (List.getElem?_eq_some_iff.1 hz1).1
        rw [List.length_take] at this
        omega
      rw [List.getElem?_take, if_pos hjl] at hz1
      have hzm := hwf z (List.mem_of_getElem? hz1)
      have hc := hcell j (by omega)
      rw [List.getD_eq_getElem?_getD, hz1] at hc
      rw [hc, u8_back (u8_of_wf hzm)]
      rfl
    · rw [List.length_map, List.length_take]; omega
    · by_cases hc0 : cap = 0
      · have hz0 : zs = [] := List.eq_nil_of_length_eq_zero (by omega)
        subst hz0
        refine ⟨MemPlace.row a ([] : List Int).length, 2, ?_⟩
        exact shut_ints (zs := []) 0 Tryz.underlying22 Tryz.underlying5 c1 (Nat.zero_le _) hl hm (by split <;> (simp; omega)) (fun i hi => by simp at hi) (fun n hn => by cases hn)
      · have h0 := hcell 0 (by omega)
        have hblk : a.block < W.heap.size := by
          have := block_lt_of_cell h0
          rw [block_add] at this
          exact this
        refine ⟨MemPlace.row a zs.length, 2, ?_⟩
        exact shut_ints 0 Tryz.underlying22 Tryz.underlying5 c1 (Nat.zero_le _) hl hm (by rw [hz, if_pos (by simpa using hblk)]) (fun i hi => by
          have h1 := hcell i hi
          exact (hW.cell (p := a.add i) (by rw [block_add]; exact hblk)).trans h1) hwf
end Go.Proofs.Qxb6615497aGreatDoor
