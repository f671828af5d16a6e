import Derived.Test.Qxb6615497aGreatDoorG16
/- what parseRobots' memory holds between two lines. -/
namespace Go.Proofs.Qxb6615497aGreatDoor
open Go Go.RowKit

structure PInv (w : World) (A : Nat) (lvs : List Value) (own star : List (Bool × ByteArray) × Int) (W : World) : Prop where
  below : Below w.heap.size w W
  size : w.heap.size + 3 ≤ W.heap.size
  r0 : W.cell? ⟨w.heap.size, 0, none⟩ = some (.slice none 0 0)
  r1 : W.cell? ⟨w.heap.size, 1, none⟩ = some (.int .i64 0)
  rf0 : W.frozen? ⟨w.heap.size, 0, none⟩ = false
  rf1 : W.frozen? ⟨w.heap.size, 1, none⟩ = false
  lines : ∀ i x, lvs[i]? = some x → W.cell? ⟨A, i, none⟩ = some x
  hA : w.heap.size + 3 ≤ A
  hAlt : A < W.heap.size
  grps : ∃ row1 row2 : Value, Grp (w.heap.size + 3) (w.heap.size + 1) own.1 own.2 row1 W ∧ Grp (w.heap.size + 3) (w.heap.size + 1 + 1) star.1 star.2 row2 W ∧ (∀ g, row1.ownBlock = some g → row2.ownBlock ≠ some g) ∧ row1.ownBlock ≠ some A ∧ row2.ownBlock ≠ some A

theorem PInv.stay {w W W' : World} {A : Nat} {lvs : List Value} {own star : List (Bool × ByteArray) × Int} (h : PInv w A lvs own star W) (hb : Below W.heap.size W W') : PInv w A lvs own star W' := by
  obtain ⟨row1, row2, g1, g2, h3, h4⟩ := h.grps
  have hz := h.size
  have hz' := hb.size
  refine ⟨h.below.trans (hb.mono (by omega)), by omega, (hb.cell (p := ⟨w.heap.size, 0, none⟩) (by show w.heap.size < _; omega)).trans h.r0, (hb.cell (p := ⟨w.heap.size, 1, none⟩) (by show w.heap.size < _; omega)).trans h.r1,
    (hb.frozen (p := ⟨w.heap.size, 0, none⟩) (by show w.heap.size < _; omega)).trans h.rf0, (hb.frozen (p := ⟨w.heap.size, 1, none⟩) (by show w.heap.size < _; omega)).trans h.rf1, fun i x hx => (hb.cell (p := ⟨A, i, none⟩) h.hAlt).trans (h.lines i x hx), h.hA, Nat.lt_of_lt_of_le h.hAlt hz', row1, row2, g1.below hb, g2.below hb, h3, h4⟩

theorem grp_rows {base S : Nat} {rs : List (Bool × ByteArray)} {d : Int} {row : Value} {W : World} (h : Grp base S rs d row W) : (∀ k, row.ownBlock = some k → base ≤ k ∧ k < W.heap.size) := fun k e => by
  obtain ⟨xs, ho, _⟩ := h.own
  exact ⟨row_base ho k e, row_lt ho k e⟩

theorem PInv.frame {w W W' : World} {A S : Nat} {row : Value} {lvs : List Value} {own star : List (Bool × ByteArray) × Int} (h : PInv w A lvs own star W) (hT : Touch S row.ownBlock W W') (hS : w.heap.size < S) (hS3 : S < w.heap.size + 3) (hr : ∀ k, row.ownBlock = some k → w.heap.size + 3 ≤ k ∧ k < W.heap.size) (hrA : row.ownBlock ≠ some A) :
    Below w.heap.size w W' ∧ w.heap.size + 3 ≤ W'.heap.size ∧ W'.cell? ⟨w.heap.size, 0, none⟩ = some (.slice none 0 0) ∧ W'.cell? ⟨w.heap.size, 1, none⟩ = some (.int .i64 0) ∧ W'.frozen? ⟨w.heap.size, 0, none⟩ = false ∧ W'.frozen? ⟨w.heap.size, 1, none⟩ = false ∧
      (∀ i x, lvs[i]? = some x → W'.cell? ⟨A, i, none⟩ = some x) ∧ w.heap.size + 3 ≤ A ∧ A < W'.heap.size := by
  have hz := h.size
  have hz' := hT.size
  have hA := h.hA
  have hAl := h.hAlt
  have hr0 : W'.heap[w.heap.size]? = W.heap[w.heap.size]? := hT.block _ (by omega) (by omega) (fun e => by have := (hr _ e.symm).1; omega)
  have hrl : W'.heap[A]? = W.heap[A]? := hT.block _ hAl (by omega) (fun e => hrA e.symm)
  refine ⟨h.below.trans (hT.below (by omega) (by omega) (fun k e => by have := (hr k e).1; omega)), by omega, (cell_of_same hr0).trans h.r0, (cell_of_same hr0).trans h.r1, (frozen_of_same hr0).trans h.rf0, (frozen_of_same hr0).trans h.rf1, fun i x hx => (cell_of_same hrl).trans (h.lines i x hx), hA, by omega⟩

theorem own_add {w W : World} {A : Nat} {lvs : List Value} {own star : List (Bool × ByteArray) × Int} (k v : ByteArray) (hk : k = kAllow ∨ k = kDis ∨ k = kCrawl) (h : PInv w A lvs own star W) (hlen : own.1.length ≤ 16777216) (hv : v.size ≤ 1048576) (hT : FTabs w) (hR : RangeVar w) :
    Calls Tryz.prog 31 #[.pointer (some ⟨w.heap.size + 1, 0, none⟩), .string k, .string v] W fun e W' => e = .returned (.tuple #[]) ∧ PInv w A lvs (addG k v own) star W' := by
  obtain ⟨row1, row2, g1, g2, h3, h4, h5⟩ := h.grps
  have hz := h.size
  have hRW : RangeVar W := by
    obtain ⟨te, pe, hp⟩ := hR
    exact ⟨te, pe, (h.below.cell (p := ⟨8, 0, none⟩) (block_lt_of_cell hp)).trans hp⟩
  refine (add_any k v hk g1 (by omega) (by omega) hlen hv (hT.stay (Nat.le_refl _) h.below) hRW).mono ?_
  rintro e W' ⟨rfl, row', g1', hTo, hrow⟩
  have hr1 := grp_rows g1
  have hr2 := grp_rows g2
  obtain ⟨b1, b2, b3, b4, b5, b6, b7, b8, b9⟩ := h.frame hTo (by omega) (by omega) hr1 h4
  refine ⟨rfl, b1, b2, b3, b4, b5, b6, b7, b8, b9, row', row2, g1', ?_, ?_, ?_, h5⟩
  · exact g2.keep hTo (by omega) (by omega) (fun k e => (hr1 k e).1) (by omega) (fun g e e' => h3 g e'.symm e)
  · intro g e e2
    rcases hrow with e' | e'
    · exact h3 g (e'.symm.trans e) e2
    · have := e' g e; have := (hr2 g e2).2; omega
  · rcases hrow with e' | e'
    · rw [e']; exact h4
    · intro e
      have := e' A e; have := h.hAlt; omega

theorem star_add {w W : World} {A : Nat} {lvs : List Value} {own star : List (Bool × ByteArray) × Int} (k v : ByteArray) (hk : k = kAllow ∨ k = kDis ∨ k = kCrawl) (h : PInv w A lvs own star W) (hlen : star.1.length ≤ 16777216) (hv : v.size ≤ 1048576) (hT : FTabs w) (hR : RangeVar w) :
    Calls Tryz.prog 31 #[.pointer (some ⟨w.heap.size + 1 + 1, 0, none⟩), .string k, .string v] W fun e W' => e = .returned (.tuple #[]) ∧ PInv w A lvs own (addG k v star) W' := by
  obtain ⟨row1, row2, g1, g2, h3, h4, h5⟩ := h.grps
  have hz := h.size
  have hRW : RangeVar W := by
    obtain ⟨te, pe, hp⟩ := hR
    exact ⟨te, pe, (h.below.cell (p := ⟨8, 0, none⟩) (block_lt_of_cell hp)).trans hp⟩
  refine (add_any k v hk g2 (by omega) (by omega) hlen hv (hT.stay (Nat.le_refl _) h.below) hRW).mono ?_
  rintro e W' ⟨rfl, row', g2', hTo, hrow⟩
  have hr1 := grp_rows g1
  have hr2 := grp_rows g2
  obtain ⟨b1, b2, b3, b4, b5, b6, b7, b8, b9⟩ := h.frame hTo (by omega) (by omega) hr2 h5
  refine ⟨rfl, b1, b2, b3, b4, b5, b6, b7, b8, b9, row1, row', ?_, g2', ?_, h4, ?_⟩
  · exact g1.keep hTo (by omega) (by omega) (fun k e => (hr2 k e).1) (by omega) (fun g e e' => h3 g e e'.symm)
  · intro g e e2
    rcases hrow with e' | e'
    · exact h3 g e (e'.symm.trans e2)
    · have := e' g e2; have := (hr1 g e).2; omega
  · rcases hrow with e' | e'
    · rw [e']; exact h5
    · intro e
      have := e' A e; have := h.hAlt; omega
end Go.Proofs.Qxb6615497aGreatDoor
