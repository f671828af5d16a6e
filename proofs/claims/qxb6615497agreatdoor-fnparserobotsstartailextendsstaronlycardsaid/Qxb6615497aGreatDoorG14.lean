import Derived.Test.Qxb6615497aGreatDoorG8
import Derived.Test.Qxb6615497aGreatDoorG13
import Derived.Test.Qxb6615497aGreatDoorE13
/- a group of rules that grows. -/
namespace Go.Proofs.Qxb6615497aGreatDoor
open Go Go.RowKit Go.Shelf

/-- W' differs from W in the block S, in the row's block and in what is new. -/
structure Touch (S : Nat) (row : Option Nat) (W W' : World) : Prop where
  os : W'.os = W.os
  tape : W'.tape = W.tape
  output : W'.output = W.output
  size : W.heap.size ≤ W'.heap.size
  block : ∀ k, k < W.heap.size → k ≠ S → some k ≠ row → W'.heap[k]? = W.heap[k]?

theorem Touch.of_below {S : Nat} {row : Option Nat} {W W' : World} (h : Below W.heap.size W W') : Touch S row W W' :=
  ⟨h.os, h.tape, h.output, h.size, fun k hk _ _ => h.block k hk⟩
theorem Touch.below {S B : Nat} {row : Option Nat} {W W' : World} (h : Touch S row W W') (hB : B ≤ W.heap.size) (hS : B ≤ S) (hr : ∀ k, row = some k → B ≤ k) : Below B W W' :=
  ⟨h.os, h.tape, h.output, h.size, fun k hk => h.block k (by omega) (by omega) (fun e => by have := hr k e.symm; omega)⟩

theorem heap_set_far (w : World) (b o k : Nat) (v : Value) (h : k ≠ b) : (w.setCell ⟨b, o, none⟩ v).heap[k]? = w.heap[k]? := by
  have h' : b ≠ k := fun e => h e.symm
  simp [World.setCell, Array.getElem?_modify, h']

/-- the cells of the rules. -/
def RuleXs (rs : List (Bool × ByteArray)) (xs : List Value) : Prop := ∀ i a v, rs[i]? = some (a, v) → xs[5 * i]? = some (.bool a) ∧ xs[5 * i + 1]? = some (.string v)

/-- the group at S: its rules, its delay. -/
structure Grp (base S : Nat) (rs : List (Bool × ByteArray)) (d : Int) (row : Value) (W : World) : Prop where
  c0 : W.cell? ⟨S, 0, none⟩ = some row
  f0 : W.frozen? ⟨S, 0, none⟩ = false
  c1 : W.cell? ⟨S, 1, none⟩ = some (.int .i64 d)
  f1 : W.frozen? ⟨S, 1, none⟩ = false
  own : ∃ xs, W.ownsRow base 47 5 row rs.length xs ∧ RuleXs rs xs

theorem cell_of_same {W W' : World} {k i : Nat} (h : W'.heap[k]? = W.heap[k]?) : W'.cell? ⟨k, i, none⟩ = W.cell? ⟨k, i, none⟩ := World.cell?_of_block (w := W) (w' := W') (a := ⟨k, i, none⟩) h
theorem frozen_of_same {W W' : World} {k i : Nat} (h : W'.heap[k]? = W.heap[k]?) : W'.frozen? ⟨k, i, none⟩ = W.frozen? ⟨k, i, none⟩ := by
  unfold World.frozen?
  simp only [h]
theorem row_of_same {W W' : World} {base size n : Nat} {e : TypeId} {v : Value} {xs : List Value} (h : W.ownsRow base e size v n xs) (hs : ∀ g, v.ownBlock = some g → W'.heap[g]? = W.heap[g]?) : W'.ownsRow base e size v n xs := by
  obtain ⟨h1, h2⟩ := h
  refine ⟨h1, ?_⟩
  rcases h2 with h2 | ⟨g, cap, cur, rfl, h3, h4, h5⟩
  · exact .inl h2
  · exact .inr ⟨g, cap, cur, rfl, h3, (hs g rfl).trans h4, h5⟩
theorem row_lt {W : World} {base size n : Nat} {e : TypeId} {v : Value} {xs : List Value} (h : W.ownsRow base e size v n xs) (g : Nat) (hv : v.ownBlock = some g) : g < W.heap.size := by
  obtain ⟨c, fz, hc⟩ := row_cells h g hv
  exact (Array.getElem?_eq_some_iff.1 hc).1

theorem Grp.keep {base S S' : Nat} {rs : List (Bool × ByteArray)} {d : Int} {row : Value} {row' : Option Nat} {W W' : World} (h : Grp base S rs d row W) (hT : Touch S' row' W W') (hne : S ≠ S') (hS' : S' < base) (hr' : ∀ k, row' = some k → base ≤ k) (hSb : S < base) (hrr : ∀ g, row.ownBlock = some g → some g ≠ row') : Grp base S rs d row W' := by
  obtain ⟨xs, ho, hx⟩ := h.own
  have hS : S < W.heap.size := block_lt_of_cell h.c0
  have hb : W'.heap[S]? = W.heap[S]? := hT.block S hS hne (fun e => by have := hr' S e.symm; omega)
  refine ⟨(cell_of_same hb).trans h.c0, (frozen_of_same hb).trans h.f0, (cell_of_same hb).trans h.c1, (frozen_of_same hb).trans h.f1, xs, ?_, hx⟩
  refine row_of_same ho fun g hg => ?_
  have := row_base ho g hg
  exact hT.block g (row_lt ho g hg) (by omega) (hrr g hg)
theorem Grp.below {base S : Nat} {rs : List (Bool × ByteArray)} {d : Int} {row : Value} {W W' : World} (h : Grp base S rs d row W) (hb : Below W.heap.size W W') : Grp base S rs d row W' := by
  obtain ⟨xs, ho, hx⟩ := h.own
  have hS : S < W.heap.size := block_lt_of_cell h.c0
  exact ⟨(hb.cell (p := ⟨S, 0, none⟩) hS).trans h.c0, (hb.frozen (p := ⟨S, 0, none⟩) hS).trans h.f0, (hb.cell (p := ⟨S, 1, none⟩) hS).trans h.c1, (hb.frozen (p := ⟨S, 1, none⟩) hS).trans h.f1, xs, ownsRow_stay ho hb, hx⟩

theorem ruleXs_snoc {rs : List (Bool × ByteArray)} {xs : List Value} (h : RuleXs rs xs) (hl : xs.length = rs.length * 5) (a : Bool) (v : ByteArray) (p an len : Value) : RuleXs (rs ++ [(a, v)]) (xs ++ [.bool a, .string v, p, an, len]) := by
  intro i a' v' hi
  rw [List.getElem?_append] at hi
  split at hi
  · rename_i hlt
    obtain ⟨h1, h2⟩ := h i a' v' hi
    exact ⟨by rw [List.getElem?_append_left (by omega)]; exact h1, by rw [List.getElem?_append_left (by omega)]; exact h2⟩
  · rename_i hlt
    have hi0 : i - rs.length = 0 := by
      cases hk : i - rs.length with
      | zero => rfl
      | succ k => rw [hk] at hi; simp at hi
    rw [hi0] at hi
    simp at hi
    obtain ⟨rfl, rfl⟩ := hi
    have hie : i = rs.length := by omega
    subst hie
    constructor
    · rw [List.getElem?_append_right (by omega), show 5 * rs.length - xs.length = 0 by omega]; rfl
    · rw [List.getElem?_append_right (by omega), show 5 * rs.length + 1 - xs.length = 1 by omega]; rfl

set_option maxRecDepth 100000 in
/-- one rule more. -/
theorem rule_added {base S : Nat} {rs : List (Bool × ByteArray)} {d : Int} {row : Value} {W w2 : World} (h : Grp base S rs d row W) (hSb : S < base) (hbW : base ≤ W.heap.size) (hlen : rs.length ≤ 16777216) (a : Bool) (v : ByteArray) (p : Option Addr) (pn pc : Nat) (an : Bool) (len : Int) (hb2' : Below W.drew.heap.size W.drew w2) :
    w2.cell? ⟨S, 0, none⟩ = some row ∧ S < w2.heap.size ∧
    ∃ g cap w3, (Builtin.append_ #[23, 23] 23 #[row, .slice (some ⟨w2.heap.size, 0, none⟩) 1 1]).run Tryz.prog (w2.alloc (.cells #[.bool a, .string v, .slice p pn pc, .bool an, .int .i64 len] 47)) = .ok (.slice (some ⟨g, 0, none⟩) (rs.length + 1) cap) w3 ∧
      w3.cell? ⟨S, 0, none⟩ = some row ∧ w3.frozen? ⟨S, 0, none⟩ = false ∧
      Hid (Grp base S (rs ++ [(a, v)]) d (.slice (some ⟨g, 0, none⟩) (rs.length + 1) cap) (w3.setCell ⟨S, 0, none⟩ (.slice (some ⟨g, 0, none⟩) (rs.length + 1) cap)) ∧
        Touch S row.ownBlock W (w3.setCell ⟨S, 0, none⟩ (.slice (some ⟨g, 0, none⟩) (rs.length + 1) cap)) ∧ (row.ownBlock = some g ∨ W.heap.size ≤ g)) := by
  have hb2 : Below W.heap.size W w2 := (Below.refl _ W).drew.trans hb2'
  have hs2 : W.heap.size ≤ w2.heap.size := hb2.size
  obtain ⟨xs, h1, hx⟩ := h.own
  obtain ⟨W2, hW2⟩ : ∃ W2, w2.alloc (.cells #[.bool a, .string v, .slice p pn pc, .bool an, .int .i64 len] 47) = W2 := ⟨_, rfl⟩
  have hba : Below w2.heap.size w2 W2 := by rw [← hW2]; exact (Below.refl _ w2).alloc (Nat.le_refl _) _
  have hbW2 : Below W.heap.size W W2 := hb2.trans (hba.mono hs2)
  have hz2 : W2.heap.size = w2.heap.size + 1 := by rw [← hW2]; simp
  have hnew : W2.heap[w2.heap.size]? = some (.cells #[.bool a, .string v, .slice p pn pc, .bool an, .int .i64 len] 47 (0, 0)) := by rw [← hW2]; exact heap_alloc_new w2 _
  have hown : W2.ownsRow base 47 5 row rs.length xs := ownsRow_stay h1 hbW2
  obtain ⟨i0, hi, hz0, hz1, hzb⟩ := info_parts (P := Tryz.prog) (e := 47) (z := .agg #[.bool false, .string ⟨#[]⟩, .slice none 0 0, .bool false, .int .i64 0]) (size := 5) (bytes := 64) (by kernel_rfl)
  obtain ⟨g, cap, w3, hrun, hown3, hgr, hat, hlt⟩ := run_append_lies (P := Tryz.prog) W2 23 23 base 47 i0 _ 5 64 Tryz.underlying23 hi hz0 hz1 hzb rfl (by omega) row rs.length xs hown ⟨w2.heap.size, 0, none⟩ 1 1 [.bool a, .string v, .slice p pn pc, .bool an, .int .i64 len] rfl
    (World.news_of_block hnew) (by intro u hu; simp at hu; rcases hu with rfl | rfl | rfl | rfl | rfl <;> rfl) (by omega) (by unfold maxLen; omega) (by omega) (by omega) W2.heap.size rfl
  have hrow : ∀ k, row.ownBlock = some k → base ≤ k := fun k e => row_base hown k e
  have hS : S < W.heap.size := block_lt_of_cell h.c0
  have far : ∀ i : Nat, w3.cell? ⟨S, i, none⟩ = W.cell? ⟨S, i, none⟩ := fun i =>
    (hgr.cell_far ⟨S, i, none⟩ (by show S < _; omega) (fun e => by have := hrow S e.symm; omega)).trans (hbW2.cell (p := ⟨S, i, none⟩) hS)
  have farf : ∀ i : Nat, w3.frozen? ⟨S, i, none⟩ = W.frozen? ⟨S, i, none⟩ := fun i =>
    (hgr.frozen_far ⟨S, i, none⟩ (by show S < _; omega) (fun e => by have := hrow S e.symm; omega)).trans (hbW2.frozen (p := ⟨S, i, none⟩) hS)
  refine ⟨(hb2.cell (p := ⟨S, 0, none⟩) hS).trans h.c0, by omega, g, cap, w3, by rw [hW2]; exact hrun, (far 0).trans h.c0, (farf 0).trans h.f0, ?_⟩
  obtain ⟨w4, hw4⟩ : ∃ w4, w3.setCell ⟨S, 0, none⟩ (.slice (some ⟨g, 0, none⟩) (rs.length + 1) cap) = w4 := ⟨_, rfl⟩
  have hs3 : W2.heap.size ≤ w3.heap.size := hgr.size
  have hz4 : w4.heap.size = w3.heap.size := by rw [← hw4]; simp
  have hb4 : ∀ k, k ≠ S → w4.heap[k]? = w3.heap[k]? := fun k hk => by rw [← hw4]; exact heap_set_far _ _ _ _ _ hk
  rw [hw4]
  refine ⟨⟨?_, ?_, ?_, ?_, xs ++ [.bool a, .string v, .slice p pn pc, .bool an, .int .i64 len], ?_, ruleXs_snoc hx h1.1 a v _ _ _⟩, ⟨?_, ?_, ?_, by omega, ?_⟩, ?_⟩
  · rw [← hw4]; exact World.cell?_setCell_same' _ _ _ (by rw [(far 0).trans h.c0]; rfl)
  · rw [← hw4, World.frozen?_setCell]; exact (farf 0).trans h.f0
  · rw [← hw4, World.cell?_setCell_other _ _ _ _ (by simp)]; exact (far 1).trans h.c1
  · rw [← hw4, World.frozen?_setCell]; exact (farf 1).trans h.f1
  · rw [List.length_append, ← hw4]; exact row_set hown3 _ _ _ hSb
  · rw [← hw4]; exact hgr.os.trans hbW2.os
  · rw [← hw4]; exact hgr.tape.trans hbW2.tape
  · rw [← hw4]; exact hgr.output.trans hbW2.output
  · intro k hk hne hr
    rw [hb4 k hne, hgr.block k (by omega) hr, hbW2.block k hk]
  · rcases hat with e | e
    · exact .inl e
    · right; omega
end Go.Proofs.Qxb6615497aGreatDoor
