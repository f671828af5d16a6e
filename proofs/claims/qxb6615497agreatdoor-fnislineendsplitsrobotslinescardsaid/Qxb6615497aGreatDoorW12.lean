import Derived.Test.Qxb6615497aGreatDoorW7
import Derived.Deep.RegionWith
/- (*robotsGroup).add at an empty group, Disallow and the pattern of the law. -/
namespace Go.Proofs.Qxb6615497aGreatDoor
open Go.RowKit

theorem rule_laid {S : Nat} {W w2 : World} (h0 : W.cell? ⟨S, 0, none⟩ = some (.slice none 0 0)) (f0 : W.frozen? ⟨S, 0, none⟩ = false) (h1 : W.cell? ⟨S, 1, none⟩ = some (.int .i64 0)) (hb2' : Below W.drew.heap.size W.drew w2) :
    w2.cell? ⟨S, 0, none⟩ = some (.slice none 0 0) ∧ w2.frozen? ⟨S, 0, none⟩ = false ∧ S < w2.heap.size ∧
    Hid (∀ (A R : Array Value) (cap : Nat), R[0]? = some (.bool false) → R[1]? = some (.string ⟨#[47, 120]⟩) →
      ∃ g cap', (((w2.setCell ⟨S, 0, none⟩ (.slice (some ⟨w2.heap.size + 1, 0, none⟩) 1 cap)).alloc (.cells A 47)).alloc (.cells R 47)).drew.cell? ⟨S, 0, none⟩ = some (.slice (some ⟨g, 0, none⟩) 1 cap') ∧
        (((w2.setCell ⟨S, 0, none⟩ (.slice (some ⟨w2.heap.size + 1, 0, none⟩) 1 cap)).alloc (.cells A 47)).alloc (.cells R 47)).drew.cell? ⟨S, 1, none⟩ = some (.int .i64 0) ∧
        (((w2.setCell ⟨S, 0, none⟩ (.slice (some ⟨w2.heap.size + 1, 0, none⟩) 1 cap)).alloc (.cells A 47)).alloc (.cells R 47)).drew.cell? ⟨g, 0, none⟩ = some (.bool false) ∧
        (((w2.setCell ⟨S, 0, none⟩ (.slice (some ⟨w2.heap.size + 1, 0, none⟩) 1 cap)).alloc (.cells A 47)).alloc (.cells R 47)).drew.cell? ⟨g, 1, none⟩ = some (.string ⟨#[47, 120]⟩) ∧
        W.heap.size ≤ g ∧ Below S W (((w2.setCell ⟨S, 0, none⟩ (.slice (some ⟨w2.heap.size + 1, 0, none⟩) 1 cap)).alloc (.cells A 47)).alloc (.cells R 47)).drew) := by
  have hb2 : Below W.heap.size W w2 := (Below.refl _ W).drew.trans hb2'
  have hS : S < W.heap.size := block_lt_of_cell h0
  have hs2 : W.heap.size ≤ w2.heap.size := hb2.size
  have q0 := (hb2.cell (p := ⟨S, 0, none⟩) hS).trans h0
  have q1 := (hb2.cell (p := ⟨S, 1, none⟩) hS).trans h1
  refine ⟨q0, (hb2.frozen (p := ⟨S, 0, none⟩) hS).trans f0, by omega, ?_⟩
  intro A R cap hR0 hR1
  obtain ⟨w4, hw4⟩ : ∃ w4, w2.setCell ⟨S, 0, none⟩ (.slice (some ⟨w2.heap.size + 1, 0, none⟩) 1 cap) = w4 := ⟨_, rfl⟩
  have hz4 : w4.heap.size = w2.heap.size := by rw [← hw4]; simp
  have hb2S : Below S W w2 := hb2.mono (by omega)
  have hbS : Below S W w4 := by
    rw [← hw4]
    exact hb2S.setCell (p := ⟨S, 0, none⟩) (Nat.le_refl _) _
  have o0 : w4.cell? ⟨S, 0, none⟩ = some (.slice (some ⟨w2.heap.size + 1, 0, none⟩) 1 cap) := by
    rw [← hw4]; exact World.cell?_setCell_same' _ _ _ (by rw [q0]; rfl)
  have o1 : w4.cell? ⟨S, 1, none⟩ = some (.int .i64 0) := by
    rw [← hw4, World.cell?_setCell_other _ _ _ _ (by simp)]; exact q1
  rw [hw4]
  have hba := (Below.refl w4.heap.size w4).alloc (Nat.le_refl _) (.cells A 47)
  have hb4 := (hba.alloc hba.size (.cells R 47)).drew
  have hg : ∀ i, ((w4.alloc (.cells A 47)).alloc (.cells R 47)).cell? ⟨w2.heap.size + 1, i, none⟩ = R[i]? := fun i =>
    World.cell?_alloc_at (w := w4.alloc (.cells A 47)) R 47 (w2.heap.size + 1) i (by simp [hz4])
  have hg' : ∀ i, ((w4.alloc (.cells A 47)).alloc (.cells R 47)).drew.cell? ⟨w2.heap.size + 1, i, none⟩ = R[i]? := hg
  generalize ((w4.alloc (.cells A 47)).alloc (.cells R 47)).drew = w5 at hb4 hg' ⊢
  refine ⟨w2.heap.size + 1, cap, (hb4.cell (p := ⟨S, 0, none⟩) (by show S < _; omega)).trans o0, (hb4.cell (p := ⟨S, 1, none⟩) (by show S < _; omega)).trans o1, (hg' 0).trans hR0, (hg' 1).trans hR1, by omega, hbS.trans (hb4.mono (by omega))⟩

theorem row_five (a b c d e : Value) (Z : Array Value) : (#[a, b, c, d, e] ++ Z)[0]? = some a ∧ (#[a, b, c, d, e] ++ Z)[1]? = some b :=
  ⟨by rw [Array.getElem?_append_left (by show 0 < 5; decide)]; rfl, by rw [Array.getElem?_append_left (by show 1 < 5; decide)]; rfl⟩

set_option maxRecDepth 100000 in
set_option maxHeartbeats 4000000 in
theorem addsRule : AddsRule := by
  intro S W h0 f0 h1 f1
  have HC := hide compilePattern_x
  have HL := hide (fun w2 => rule_laid (w2 := w2) h0 f0 h1)
  have hS : S < W.heap.size := block_lt_of_cell h0
  clear h1 f1
  go_enter Tryz.func31, Tryz.ntmps31
  go_wp2
  go_region_with (go_at_call 24; refine (unhide HC _).mono ?_; rintro e w2 ⟨g, cap, rfl, hb2⟩; obtain ⟨q2, f2, hlt2, HM⟩ := unhide HL w2 hb2)
  all_goals
    go_end0
    exact ⟨rfl, unhide HM _ _ _ (row_five _ _ _ _ _ _).1 (row_five _ _ _ _ _ _).2⟩
end Go.Proofs.Qxb6615497aGreatDoor
