import Derived.Test.Qxb6615497aGreatDoorG5
import Derived.Test.Qxb6615497aGreatDoorG4
/- compilePattern: what its cells hold between two rounds. -/
namespace Go.Proofs.Qxb6615497aGreatDoor
open Go.RowKit Go.Shelf

/-- all strings. -/
def Strs (xs : List Value) : Prop := ∀ u ∈ xs, ∃ r, u = .string r

structure MidG (w : World) (an : Bool) (pre : List ByteArray) (W : World) : Prop where
  below : Below w.heap.size w W
  size : w.heap.size + 5 ≤ W.heap.size
  r0 : W.cell? ⟨w.heap.size, 0, none⟩ = some (.slice none 0 0)
  r1 : W.cell? ⟨w.heap.size, 1, none⟩ = some (.bool false)
  r2 : W.cell? ⟨w.heap.size, 2, none⟩ = some (.int .i64 0)
  rf0 : W.frozen? ⟨w.heap.size, 0, none⟩ = false
  rf1 : W.frozen? ⟨w.heap.size, 1, none⟩ = false
  rf2 : W.frozen? ⟨w.heap.size, 2, none⟩ = false
  p1 : W.cell? ⟨w.heap.size + 1, 1, none⟩ = some (.bool an)
  p2 : W.cell? ⟨w.heap.size + 1, 2, none⟩ = some (.int .i64 0)
  pf0 : W.frozen? ⟨w.heap.size + 1, 0, none⟩ = false
  pf2 : W.frozen? ⟨w.heap.size + 1, 2, none⟩ = false
  p0 : ∃ v xs, W.cell? ⟨w.heap.size + 1, 0, none⟩ = some v ∧ W.ownsRow (w.heap.size + 5) 9 1 v pre.length xs ∧ Strs xs

theorem row_cells {W : World} {base size n : Nat} {e : TypeId} {v : Value} {xs : List Value} (h : W.ownsRow base e size v n xs) (g : Nat) (hv : v.ownBlock = some g) : ∃ c fz, W.heap[g]? = some (.cells c e fz) := by
  rcases h.2 with ⟨rfl, _⟩ | ⟨g', cap, cur, rfl, _, h3, _⟩
  · cases hv
  · injection hv with hv
    subst hv
    exact ⟨_, _, h3⟩
theorem row_base {W : World} {base size n : Nat} {e : TypeId} {v : Value} {xs : List Value} (h : W.ownsRow base e size v n xs) (g : Nat) (hv : v.ownBlock = some g) : base ≤ g := by
  rcases h.2 with ⟨rfl, _⟩ | ⟨g', cap, cur, rfl, h2, _⟩
  · cases hv
  · injection hv with hv
    subst hv
    exact h2
theorem row_not {W : World} {base size n : Nat} {e : TypeId} {v : Value} {xs : List Value} (h : W.ownsRow base e size v n xs) {row : Option Nat} (hr : ∀ r, row = some r → ∃ o, W.heap[r]? = some o ∧ o.isCells = false) : v.ownBlock = none ∨ v.ownBlock ≠ row := by
  cases hv : v.ownBlock with
  | none => exact .inl rfl
  | some g =>
    right
    intro e'
    obtain ⟨o, ho, hc⟩ := hr g e'.symm
    obtain ⟨c, fz, hk⟩ := row_cells h g hv
    rw [hk] at ho
    injection ho with ho
    subst ho
    cases hc

theorem midG_own (w : World) (an : Bool) (B : Nat) (hB : w.heap.size ≤ B) : OwnFrom B (MidG w an) := fun s W W' row h hg hr => by
  have hr' := fun r e => (hr r e).2
  obtain ⟨v, xs, h0, h1, h2⟩ := h.p0
  exact ⟨h.below.grown hg h.below.size (fun k e => Nat.le_trans hB (hr k e).1), Nat.le_trans h.size hg.size, cell_kept h.r0 hg hr', cell_kept h.r1 hg hr', cell_kept h.r2 hg hr', (frozen_kept h.r0 hg hr').trans h.rf0, (frozen_kept h.r1 hg hr').trans h.rf1, (frozen_kept h.r2 hg hr').trans h.rf2,
    cell_kept h.p1 hg hr', cell_kept h.p2 hg hr', (frozen_kept h0 hg hr').trans h.pf0, (frozen_kept h.p2 hg hr').trans h.pf2, v, xs, cell_kept h0 hg hr', h1.kept hg (row_not h1 hr'), h2⟩

theorem row_set {W : World} {base size n : Nat} {e : TypeId} {v : Value} {xs : List Value} (h : W.ownsRow base e size v n xs) (b o : Nat) (u : Value) (hb : b < base) : (W.setCell ⟨b, o, none⟩ u).ownsRow base e size v n xs :=
  ownsRow_setCell_below h (a := ⟨b, o, none⟩) hb u

theorem midG_set (w : World) (an : Bool) (pre : List ByteArray) (W : World) (v : Value) (h : MidG w an pre W) : MidG w an pre (W.setCell ⟨w.heap.size + 1 + 1, 0, none⟩ v) where
  below := h.below.setCell (p := ⟨w.heap.size + 1 + 1, 0, none⟩) (by show w.heap.size ≤ w.heap.size + 1 + 1; omega) v
  size := Nat.le_trans h.size ((Below.refl 0 W).setCell (p := ⟨w.heap.size + 1 + 1, 0, none⟩) (Nat.zero_le _) v).size
  r0 := by rw [cell_set_far _ _ _ _ _ _ (by omega)]; exact h.r0
  r1 := by rw [cell_set_far _ _ _ _ _ _ (by omega)]; exact h.r1
  r2 := by rw [cell_set_far _ _ _ _ _ _ (by omega)]; exact h.r2
  rf0 := by rw [World.frozen?_setCell]; exact h.rf0
  rf1 := by rw [World.frozen?_setCell]; exact h.rf1
  rf2 := by rw [World.frozen?_setCell]; exact h.rf2
  p1 := by rw [cell_set_far _ _ _ _ _ _ (by omega)]; exact h.p1
  p2 := by rw [cell_set_far _ _ _ _ _ _ (by omega)]; exact h.p2
  pf0 := by rw [World.frozen?_setCell]; exact h.pf0
  pf2 := by rw [World.frozen?_setCell]; exact h.pf2
  p0 := by
    obtain ⟨u, xs, h0, h1, h2⟩ := h.p0
    exact ⟨u, xs, by rw [cell_set_far _ _ _ _ _ _ (by omega)]; exact h0, row_set h1 _ _ _ (by omega), h2⟩

set_option maxRecDepth 100000 in
/-- one part more. -/
theorem part_added {w W w2 : World} {an : Bool} {pre : List ByteArray} (h : MidG w an pre W) (hpre : pre.length ≤ 16777216) (r : ByteArray) (hb2' : Below W.drew.heap.size W.drew w2) :
    ∃ v, W.cell? ⟨w.heap.size + 1, 0, none⟩ = some v ∧ w2.cell? ⟨w.heap.size + 1, 0, none⟩ = some v ∧ w.heap.size + 1 < w2.heap.size ∧ w.heap.size < w2.heap.size ∧
    ∃ g cap w3, (Builtin.append_ #[34, 34] 34 #[v, .slice (some ⟨w2.heap.size, 0, none⟩) 1 1]).run Tryz.prog (w2.alloc (.cells #[.string r] 9)) = .ok (.slice (some ⟨g, 0, none⟩) (pre.length + 1) cap) w3 ∧
      w3.cell? ⟨w.heap.size + 1, 0, none⟩ = some v ∧ w3.frozen? ⟨w.heap.size + 1, 0, none⟩ = false ∧
      Hid (∀ p, MidG w an (pre ++ [p]) (w3.setCell ⟨w.heap.size + 1, 0, none⟩ (.slice (some ⟨g, 0, none⟩) (pre.length + 1) cap)) ∧
        KeepsOthers W (w3.setCell ⟨w.heap.size + 1, 0, none⟩ (.slice (some ⟨g, 0, none⟩) (pre.length + 1) cap)) ∧
        Keeps (boxes (w.heap.size + 1 + 1) (w.heap.size + 1 + 1 + 1) (w.heap.size + 1 + 1 + 2)) W (w3.setCell ⟨w.heap.size + 1, 0, none⟩ (.slice (some ⟨g, 0, none⟩) (pre.length + 1) cap))) := by
  have hb2 : Below W.heap.size W w2 := (Below.refl _ W).drew.trans hb2'
  have hsz := h.size
  have hs2 : W.heap.size ≤ w2.heap.size := hb2.size
  obtain ⟨v, xs, h0, h1, hx⟩ := h.p0
  obtain ⟨W2, hW2⟩ : ∃ W2, w2.alloc (.cells #[.string r] 9) = W2 := ⟨_, rfl⟩
  have hba : Below w2.heap.size w2 W2 := by rw [← hW2]; exact (Below.refl _ w2).alloc (Nat.le_refl _) _
  have hbW : Below W.heap.size W W2 := hb2.trans (hba.mono hs2)
  have hz2 : W2.heap.size = w2.heap.size + 1 := by rw [← hW2]; simp
  have hnew : W2.heap[w2.heap.size]? = some (.cells #[.string r] 9 (0, 0)) := by rw [← hW2]; exact heap_alloc_new w2 _
  have hown : W2.ownsRow (w.heap.size + 5) 9 1 v pre.length xs := ownsRow_stay h1 hbW
  obtain ⟨i0, hi, hz0, hz1, hzb⟩ := info_parts (P := Tryz.prog) (e := 9) (z := .string ⟨#[]⟩) (size := 1) (bytes := 16) (by kernel_rfl)
  obtain ⟨g, cap, w3, hrun, hown3, hgr, hat, hlt⟩ := run_append_lies (P := Tryz.prog) W2 34 34 (w.heap.size + 5) 9 i0 (.string ⟨#[]⟩) 1 16 Tryz.underlying34 hi hz0 hz1 hzb rfl (by omega) v pre.length xs hown ⟨w2.heap.size, 0, none⟩ 1 1 [.string r] rfl
    (World.news_of_block hnew) (by intro u hu; simp at hu; subst hu; rfl) (by omega) (by unfold maxLen; omega) (by omega) (by omega) W2.heap.size rfl
  have hrow : ∀ k, v.ownBlock = some k → w.heap.size + 5 ≤ k := fun k e => row_base hown k e
  have far : ∀ x i : Nat, x < w.heap.size + 5 → w3.cell? ⟨x, i, none⟩ = W.cell? ⟨x, i, none⟩ := fun x i hx =>
    (hgr.cell_far ⟨x, i, none⟩ (by show x < _; omega) (fun e => by have := hrow x e.symm; omega)).trans (hbW.cell (p := ⟨x, i, none⟩) (by show x < _; omega))
  have farf : ∀ x i : Nat, x < w.heap.size + 5 → w3.frozen? ⟨x, i, none⟩ = W.frozen? ⟨x, i, none⟩ := fun x i hx =>
    (hgr.frozen_far ⟨x, i, none⟩ (by show x < _; omega) (fun e => by have := hrow x e.symm; omega)).trans (hbW.frozen (p := ⟨x, i, none⟩) (by show x < _; omega))
  have hko : KeepsOthers W w3 := (below_others hbW).trans (KeepsOthers.of_grownBy hgr (fun j o e hj => by
    obtain ⟨c, fz, hk⟩ := row_cells hown j e
    rw [hk] at hj
    injection hj with hj
    subst hj
    rfl))
  have hb3 : Below w.heap.size w w3 := (h.below.trans (hbW.mono (by omega))).grown hgr (by omega) (fun k e => by have := hrow k e; omega)
  refine ⟨v, h0, (hb2.cell (p := ⟨w.heap.size + 1, 0, none⟩) (by show w.heap.size + 1 < _; omega)).trans h0, by omega, by omega, g, cap, w3, by rw [hW2]; exact hrun, (far _ _ (by omega)).trans h0, (farf _ _ (by omega)).trans h.pf0, ?_⟩
  intro p
  obtain ⟨w4, hw4⟩ : ∃ w4, w3.setCell ⟨w.heap.size + 1, 0, none⟩ (.slice (some ⟨g, 0, none⟩) (pre.length + 1) cap) = w4 := ⟨_, rfl⟩
  have s3 : W2.heap.size ≤ w3.heap.size := hgr.size
  have hz4 : w4.heap.size = w3.heap.size := by rw [← hw4]; simp
  have c4 : ∀ x i : Nat, x < w.heap.size + 5 → x ≠ w.heap.size + 1 → w4.cell? ⟨x, i, none⟩ = W.cell? ⟨x, i, none⟩ := fun x i hx hne => by
    rw [← hw4, cell_set_far _ _ _ _ _ _ (Ne.symm hne)]
    exact far x i hx
  have n4 : ∀ i : Nat, i ≠ 0 → w4.cell? ⟨w.heap.size + 1, i, none⟩ = W.cell? ⟨w.heap.size + 1, i, none⟩ := fun i hne => by
    rw [← hw4, World.cell?_setCell_other _ _ _ _ (by intro e; injection e with e1 e2; exact hne e2.symm)]
    exact far _ i (by omega)
  have f4 : ∀ x i : Nat, x < w.heap.size + 5 → w4.frozen? ⟨x, i, none⟩ = W.frozen? ⟨x, i, none⟩ := fun x i hx => by
    rw [← hw4, World.frozen?_setCell]
    exact farf x i hx
  have o4 : w4.cell? ⟨w.heap.size + 1, 0, none⟩ = some (.slice (some ⟨g, 0, none⟩) (pre.length + 1) cap) := by
    rw [← hw4]
    exact World.cell?_setCell_same' _ _ _ (by rw [(far _ _ (by omega)).trans h0]; rfl)
  have own4 : w4.ownsRow (w.heap.size + 5) 9 1 (.slice (some ⟨g, 0, none⟩) (pre.length + 1) cap) (pre.length + 1) (xs ++ [.string r]) := by
    rw [← hw4]; exact row_set hown3 _ _ _ (by omega)
  have hb4 : Below w.heap.size w w4 := by rw [← hw4]; exact hb3.setCell (p := ⟨w.heap.size + 1, 0, none⟩) (by show w.heap.size ≤ w.heap.size + 1; omega) _
  have hk4 : KeepsOthers W w4 := hko.trans (by rw [← hw4]; exact KeepsOthers.setCell _ _ _)
  rw [hw4]
  refine ⟨⟨hb4, by omega, (c4 _ _ (by omega) (by omega)).trans h.r0, (c4 _ _ (by omega) (by omega)).trans h.r1, (c4 _ _ (by omega) (by omega)).trans h.r2, (f4 _ _ (by omega)).trans h.rf0, (f4 _ _ (by omega)).trans h.rf1, (f4 _ _ (by omega)).trans h.rf2, (n4 _ (by omega)).trans h.p1, (n4 _ (by omega)).trans h.p2, (f4 _ _ (by omega)).trans h.pf0, (f4 _ _ (by omega)).trans h.pf2, _, xs ++ [.string r], o4, ?_, ?_⟩, hk4, ?_⟩
  · rw [List.length_append]; exact own4
  · intro u hu
    rcases List.mem_append.1 hu with hu | hu
    · exact hx u hu
    · simp at hu; exact ⟨r, hu⟩
  · intro q hq
    rcases hq with rfl | rfl | rfl
    · exact ⟨c4 _ _ (by omega) (by omega), f4 _ _ (by omega)⟩
    · exact ⟨c4 _ _ (by omega) (by omega), f4 _ _ (by omega)⟩
    · exact ⟨c4 _ _ (by omega) (by omega), f4 _ _ (by omega)⟩

/-- compilePattern's cells behind its first loop. -/
structure FinG (w : World) (D g n cap : Nat) (xs : List Value) (an : Bool) (z : Int) (W : World) : Prop where
  below : Below w.heap.size w W
  r0 : W.cell? ⟨w.heap.size, 0, none⟩ = some (.slice none 0 0)
  r1 : W.cell? ⟨w.heap.size, 1, none⟩ = some (.bool false)
  r2 : W.cell? ⟨w.heap.size, 2, none⟩ = some (.int .i64 0)
  rf0 : W.frozen? ⟨w.heap.size, 0, none⟩ = false
  rf1 : W.frozen? ⟨w.heap.size, 1, none⟩ = false
  rf2 : W.frozen? ⟨w.heap.size, 2, none⟩ = false
  p0 : W.cell? ⟨w.heap.size + 1, 0, none⟩ = some (.slice (some ⟨g, 0, none⟩) n cap)
  p1 : W.cell? ⟨w.heap.size + 1, 1, none⟩ = some (.bool an)
  p2 : W.cell? ⟨w.heap.size + 1, 2, none⟩ = some (.int .i64 z)
  pf2 : W.frozen? ⟨w.heap.size + 1, 2, none⟩ = false
  row : W.ownsRow (w.heap.size + 5) 9 1 (.slice (some ⟨g, 0, none⟩) n cap) n xs
  strs : Strs xs
  hK : W.heap[D]? = some (.deferred (some []))

theorem FinG.set {w W : World} {D g n cap : Nat} {xs : List Value} {an : Bool} {z : Int} (h : FinG w D g n cap xs an z W) (z' : Int) : FinG w D g n cap xs an z' (W.setCell ⟨w.heap.size + 1, 2, none⟩ (.int .i64 z')) where
  below := h.below.setCell (p := ⟨w.heap.size + 1, 2, none⟩) (by show w.heap.size ≤ w.heap.size + 1; omega) _
  r0 := by rw [cell_set_far _ _ _ _ _ _ (by omega)]; exact h.r0
  r1 := by rw [cell_set_far _ _ _ _ _ _ (by omega)]; exact h.r1
  r2 := by rw [cell_set_far _ _ _ _ _ _ (by omega)]; exact h.r2
  rf0 := by rw [World.frozen?_setCell]; exact h.rf0
  rf1 := by rw [World.frozen?_setCell]; exact h.rf1
  rf2 := by rw [World.frozen?_setCell]; exact h.rf2
  p0 := by rw [World.cell?_setCell_other _ _ _ _ (by simp)]; exact h.p0
  p1 := by rw [World.cell?_setCell_other _ _ _ _ (by simp)]; exact h.p1
  p2 := World.cell?_setCell_same' _ _ _ (by rw [h.p2]; rfl)
  pf2 := by rw [World.frozen?_setCell]; exact h.pf2
  row := row_set h.row _ _ _ (by omega)
  strs := h.strs
  hK := (KeepsOthers.setCell W ⟨w.heap.size + 1, 2, none⟩ (.int .i64 z')).same D _ h.hK rfl

theorem FinG.part {w W : World} {D g n cap : Nat} {xs : List Value} {an : Bool} {z : Int} (h : FinG w D g n cap xs an z W) (i : Nat) (hi : i < n) : ∃ r, W.cell? ⟨g, i, none⟩ = some (.string r) := by
  have hl : xs.length = n := by have := h.row.1; omega
  have hc := h.row.cellAt i (by omega)
  rw [List.getElem?_eq_getElem (by omega)] at hc
  obtain ⟨r, hr⟩ := h.strs (xs[i]'(by omega)) (List.getElem_mem _)
  exact ⟨r, by rw [hc, hr]⟩

theorem pcs_pos : ∀ l : List UInt8, 0 < (pcs l).length
  | [] => by simp [pcs]
  | c :: r => by
    rw [pcs]
    split
    · simp
    · split <;> simp
theorem pieces_pos (s : ByteArray) : 0 < (pieces s).length := by
  unfold pieces
  rw [List.length_map]
  exact pcs_pos _
end Go.Proofs.Qxb6615497aGreatDoor
