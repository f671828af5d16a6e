import Derived.Test.Qxb6615497aGreatDoorW8
import Derived.Test.Qxb6615497aGreatDoorSeqLaw
import Derived.RangeFuncNested
import Derived.RangeFuncBound
import Derived.RangeFuncCalls
import Derived.RangeFuncLeaves
import Derived.OwnWalkIn
import Derived.TacticsInMore
import Derived.LoopNIn
import Derived.LoopIn
import Derived.Stop.RegionWithIn
import Derived.Deep.AppendLies
/- compilePattern at a plain pattern without a star; (*robotsGroup).add. -/
namespace Go.Proofs.Qxb6615497aGreatDoor
open Go.RowKit Go.Shelf
attribute [local go_sem] Oper.semAt_some

set_option maxRecDepth 100000 in
set_option maxHeartbeats 2000000 in
theorem split_one (Bs Bsep Bsv : Nat) (kp : Addr → Prop) (s : ByteArray) (w : World) (hno : ∀ x ∈ s.data.toList, x ≠ 42) (h1 : Bs < w.heap.size) (h2 : Bsep < w.heap.size)
    (c1 : w.cell? ⟨Bs, 0, none⟩ = some (.string s)) (c2 : w.cell? ⟨Bsep, 0, none⟩ = some (.string ⟨#[42]⟩)) :
    Gives Fence.wide 3 Tryz.prog 94 #[.pointer (some ⟨Bsep, 0, none⟩), .pointer (some ⟨Bs, 0, none⟩), .pointer (some ⟨Bsv, 0, none⟩)] Value.string ⟨Bs, 0, none⟩ kp [s] w := by
  intro l J Jx W hW hJb hY h0
  have d1 := (hW.cell (p := ⟨Bs, 0, none⟩) (by show Bs < _; omega)).trans c1
  have d2 := (hW.cell (p := ⟨Bsep, 0, none⟩) (by show Bsep < _; omega)).trans c2
  refine callsIn_of_wp Tryz.func94 rfl trivial ?_ rfl
  simp only [Tryz.ntmps94, List.size_toArray, List.length_cons, List.length_nil, Nat.reduceAdd, Nat.reduceSub, Array.replicate_succ, Array.replicate_zero, List.push_toArray, List.append_toArray, List.nil_append, List.cons_append]
  gi_wp2
  gi_loopw [7] (fun _ wr => wr.cell? ⟨Bs, 0, none⟩ = some (.string s) ∧ wr.cell? ⟨Bsep, 0, none⟩ = some (.string ⟨#[42]⟩) ∧ J [] wr)
    (fun _ wr => 0)
  case atStart => exact ⟨d1, d2, h0⟩
  case round =>
    obtain ⟨e1, e2, hJ⟩ := hrel
    have hI := fun w => Tryz.strings_Index_one s 42 w
    rw [indexByte_not _ _ hno] at hI
    have HI := hide hI
    clear hI
    obtain ⟨fn, tmps, assign, body, hy, hR⟩ := hY [] s wr (List.prefix_refl _) hJ
    gi_wp2_with (refine ⟨trivial, ?_⟩; gi_at_call 95; refine (callsIn_wide.2 (unhide HI _)).mono ?_; rintro e w' ⟨rfl, rfl⟩)
    refine hR.mono ?_
    rintro e W3 (⟨rfl, hJ3, hk3⟩ | ⟨rfl, hx3⟩)
    · gi_wp2
      go_end0
      exact ⟨⟨_, rfl⟩, .inl hJ3⟩
    · gi_wp2
      go_end0
      exact ⟨⟨_, rfl⟩, .inr ⟨_, List.prefix_refl _, hx3⟩⟩

set_option maxHeartbeats 1000000 in
theorem splitSeq_box (q : ByteArray) (w : World) :
    Calls Tryz.prog 59 #[.string q, .string ⟨#[42]⟩, .int .i64 0] w fun e w' =>
      e = .returned (.func (.func 94) #[] #[.pointer (some ⟨w.heap.size + 1, 0, none⟩), .pointer (some ⟨w.heap.size, 0, none⟩), .pointer (some ⟨w.heap.size + 2, 0, none⟩)]) ∧
      w' = ((w.alloc (.cells #[.string q] 9)).alloc (.cells #[.string ⟨#[42]⟩] 9)).alloc (.cells #[.int .i64 0] 3) := by
  go_enter Tryz.func59, Tryz.ntmps59
  go_wp2
  go_ret
  exact ⟨rfl, rfl⟩
theorem splitSeq_any (q : ByteArray) (w : World) :
    Calls Tryz.prog 37 #[.string q, .string ⟨#[42]⟩] w fun e w' =>
      e = .returned (.func (.func 94) #[] #[.pointer (some ⟨w.heap.size + 1, 0, none⟩), .pointer (some ⟨w.heap.size, 0, none⟩), .pointer (some ⟨w.heap.size + 2, 0, none⟩)]) ∧
      w' = ((w.alloc (.cells #[.string q] 9)).alloc (.cells #[.string ⟨#[42]⟩] 9)).alloc (.cells #[.int .i64 0] 3) := by
  have H := hide (splitSeq_box q w)
  go_enter Tryz.func37, Tryz.ntmps37
  go_wp2_with (go_at_call 59; refine (unhide H).mono ?_; rintro e w' ⟨rfl, rfl⟩)
  go_ret
  exact ⟨rfl, rfl⟩

def slashX : ByteArray := ⟨#[47, 120]⟩

/-- what compilePattern's own cells hold between two rounds. -/
structure Mid (w : World) (pre : List ByteArray) (W : World) : Prop where
  below : Below w.heap.size w W
  size : w.heap.size + 5 ≤ W.heap.size
  r0 : W.cell? ⟨w.heap.size, 0, none⟩ = some (.slice none 0 0)
  r1 : W.cell? ⟨w.heap.size, 1, none⟩ = some (.bool false)
  r2 : W.cell? ⟨w.heap.size, 2, none⟩ = some (.int .i64 0)
  rf0 : W.frozen? ⟨w.heap.size, 0, none⟩ = false
  rf1 : W.frozen? ⟨w.heap.size, 1, none⟩ = false
  rf2 : W.frozen? ⟨w.heap.size, 2, none⟩ = false
  p1 : W.cell? ⟨w.heap.size + 1, 1, none⟩ = some (.bool false)
  p2 : W.cell? ⟨w.heap.size + 1, 2, none⟩ = some (.int .i64 0)
  pf0 : W.frozen? ⟨w.heap.size + 1, 0, none⟩ = false
  pf2 : W.frozen? ⟨w.heap.size + 1, 2, none⟩ = false
  p0 : (pre = [] ∧ W.cell? ⟨w.heap.size + 1, 0, none⟩ = some (.slice none 0 0)) ∨
    (pre ≠ [] ∧ ∃ g cap, W.cell? ⟨w.heap.size + 1, 0, none⟩ = some (.slice (some ⟨g, 0, none⟩) 1 cap) ∧ W.cell? ⟨g, 0, none⟩ = some (.string slashX) ∧ w.heap.size + 5 ≤ g)

theorem mid_own (w : World) (B : Nat) (hB : w.heap.size ≤ B) : OwnFrom B (Mid w) := fun s W W' row h hg hr => by
  have hr' := fun r e => (hr r e).2
  refine ⟨h.below.grown hg h.below.size (fun k e => Nat.le_trans hB (hr k e).1), Nat.le_trans h.size hg.size, cell_kept h.r0 hg hr', cell_kept h.r1 hg hr', cell_kept h.r2 hg hr', (frozen_kept h.r0 hg hr').trans h.rf0, (frozen_kept h.r1 hg hr').trans h.rf1, (frozen_kept h.r2 hg hr').trans h.rf2,
    cell_kept h.p1 hg hr', cell_kept h.p2 hg hr', ?_, (frozen_kept h.p2 hg hr').trans h.pf2, ?_⟩
  · rcases h.p0 with ⟨_, h0⟩ | ⟨_, g, cap, h0, _, _⟩
    · exact (frozen_kept h0 hg hr').trans h.pf0
    · exact (frozen_kept h0 hg hr').trans h.pf0
  · rcases h.p0 with ⟨e, h0⟩ | ⟨e, g, cap, h0, h1, h2⟩
    · exact .inl ⟨e, cell_kept h0 hg hr'⟩
    · exact .inr ⟨e, g, cap, cell_kept h0 hg hr', cell_kept h1 hg hr', h2⟩

theorem cell_set_far (w : World) (b1 b2 o1 o2 : Nat) (v : Value) (h : b1 ≠ b2) : (w.setCell ⟨b1, o1, none⟩ v).cell? ⟨b2, o2, none⟩ = w.cell? ⟨b2, o2, none⟩ := by
  apply World.cell?_setCell_other
  intro e
  injection e with e1
  exact h e1

theorem mid_set (w : World) (pre : List ByteArray) (W : World) (v : Value) (h : Mid w pre W) : Mid w pre (W.setCell ⟨w.heap.size + 1 + 1, 0, none⟩ v) where
  below := h.below.setCell (p := ⟨w.heap.size + 1 + 1, 0, none⟩) (by show w.heap.size ≤ w.heap.size + 1 + 1; omega) v
  size := Nat.le_trans h.size ((Below.refl 0 W).setCell (p := ⟨w.heap.size + 1 + 1, 0, none⟩) (Nat.zero_le _) v).size
  r0 := by rw [cell_set_far _ _ _ _ _ _ (by omega)]; exact h.r0
  r1 := by rw [cell_set_far _ _ _ _ _ _ (by omega)]; exact h.r1
  r2 := by rw [cell_set_far _ _ _ _ _ _ (by omega)]; exact h.r2
  rf0 := by rw [World.frozen?_setCell]; exact h.rf0
  rf1 := by rw [World.frozen?_setCell]; exact h.rf1
  rf2 := by rw [World.frozen?_setCell]; exact h.rf2
  p1 := by rw [cell_set_far _ _ _ _ _ _ (by omega)]; exact h.p1
  p2 := by rw [cell_set_far _ _ _ _ _ _ (by omega)]; exact h.p2
  pf0 := by rw [World.frozen?_setCell]; exact h.pf0
  pf2 := by rw [World.frozen?_setCell]; exact h.pf2
  p0 := by
    rcases h.p0 with ⟨e, h0⟩ | ⟨e, g, cap, h0, h1, h2⟩
    · exact .inl ⟨e, by rw [cell_set_far _ _ _ _ _ _ (by omega)]; exact h0⟩
    · exact .inr ⟨e, g, cap, by rw [cell_set_far _ _ _ _ _ _ (by omega)]; exact h0, by rw [cell_set_far _ _ _ _ _ _ (by omega)]; exact h1, h2⟩

/-- the world where the loop of compilePattern begins. -/
theorem world5 (w : World) : ∃ W0 : World,
    (((((w.alloc (.cells #[.slice none 0 0, .bool false, .int .i64 0] 45)).alloc (.cells #[.slice none 0 0, .bool false, .int .i64 0] 45)).alloc (.cells #[.string slashX] 9)).alloc (.cells #[.string ⟨#[42]⟩] 9)).alloc (.cells #[.int .i64 0] 3)) = W0 ∧
    Mid w [] W0 ∧ W0.heap.size = w.heap.size + 5 ∧
    W0.cell? ⟨w.heap.size + 1 + 1, 0, none⟩ = some (.string slashX) ∧ W0.cell? ⟨w.heap.size + 1 + 1 + 1, 0, none⟩ = some (.string ⟨#[42]⟩) := by
  refine ⟨_, rfl, ⟨?_, ?_, ?_, ?_, ?_, ?_, ?_, ?_, ?_, ?_, ?_, ?_, .inl ⟨rfl, ?_⟩⟩, ?_, ?_, ?_⟩
  · exact (((((Below.refl _ w).alloc (Nat.le_refl _) _).alloc (by simp) _).alloc (by simp; omega) _).alloc (by simp; omega) _).alloc (by simp; omega) _
  all_goals go_simp

theorem slashX_plain : ∀ i (hi : i < slashX.size), plainByte (slashX[i]'hi) := by
  intro i hi
  have hm : slashX[i]'hi ∈ [47, 120] := List.mem_of_getElem? (Lib.data_getElem? slashX i hi)
  simp at hm
  unfold plainByte
  rcases hm with h | h <;> rw [h] <;> decide

theorem below_others {W W' : World} (h : Below W.heap.size W W') : KeepsOthers W W' :=
  ⟨h.size, fun k o hk _ => by rw [← hk]; exact h.block k (Array.getElem?_eq_some_iff.1 hk).1⟩

theorem row_head (x : Value) (Z : Array Value) : (#[x] ++ Z)[0]? = some x := by
  rw [Array.getElem?_append_left (by show 0 < 1; decide)]; rfl

theorem part_laid {w W w2 : World} (h : Mid w [] W) (hb2' : Below W.drew.heap.size W.drew w2) :
    w2.cell? ⟨w.heap.size + 1, 0, none⟩ = some (.slice none 0 0) ∧ w2.frozen? ⟨w.heap.size + 1, 0, none⟩ = false ∧ w.heap.size + 1 < w2.heap.size ∧ w.heap.size < w2.heap.size ∧
    Hid (∀ (R : Array Value) (cap : Nat), R[0]? = some (.string slashX) → Mid w [slashX] (((w2.setCell ⟨w.heap.size + 1, 0, none⟩ (.slice (some ⟨w2.heap.size + 1, 0, none⟩) 1 cap)).alloc (.cells #[.string slashX] 9)).alloc (.cells R 9)).drew ∧
      KeepsOthers W (((w2.setCell ⟨w.heap.size + 1, 0, none⟩ (.slice (some ⟨w2.heap.size + 1, 0, none⟩) 1 cap)).alloc (.cells #[.string slashX] 9)).alloc (.cells R 9)).drew) := by
  have hb2 : Below W.heap.size W w2 := (Below.refl _ W).drew.trans hb2'
  have hsz := h.size
  have hs2 : W.heap.size ≤ w2.heap.size := hb2.size
  have p0 : W.cell? ⟨w.heap.size + 1, 0, none⟩ = some (.slice none 0 0) := by
    rcases h.p0 with ⟨_, h⟩ | ⟨h, _⟩
    · exact h
    · exact absurd rfl h
  have q2 := (hb2.cell (p := ⟨w.heap.size + 1, 0, none⟩) (by show w.heap.size + 1 < _; omega)).trans p0
  refine ⟨q2, (hb2.frozen (p := ⟨w.heap.size + 1, 0, none⟩) (by show w.heap.size + 1 < _; omega)).trans h.pf0, by omega, by omega, ?_⟩
  intro R cap hR
  obtain ⟨w4, hw4⟩ : ∃ w4, w2.setCell ⟨w.heap.size + 1, 0, none⟩ (.slice (some ⟨w2.heap.size + 1, 0, none⟩) 1 cap) = w4 := ⟨_, rfl⟩
  have hz4 : w4.heap.size = w2.heap.size := by rw [← hw4]; simp
  rw [hw4]
  have hba := (Below.refl w4.heap.size w4).alloc (Nat.le_refl _) (.cells #[.string slashX] 9)
  have hb4 := (hba.alloc hba.size (.cells R 9)).drew
  have hg0 : ((w4.alloc (.cells #[.string slashX] 9)).alloc (.cells R 9)).cell? ⟨w2.heap.size + 1, 0, none⟩ = some (.string slashX) := by
    have := World.cell?_alloc_at (w := w4.alloc (.cells #[.string slashX] 9)) R 9 (w2.heap.size + 1) 0 (by simp [hz4])
    rw [this]; exact hR
  have hg0' : (((w4.alloc (.cells #[.string slashX] 9)).alloc (.cells R 9)).drew).cell? ⟨w2.heap.size + 1, 0, none⟩ = some (.string slashX) := hg0
  have hk4 : KeepsOthers w2 w4 := by rw [← hw4]; exact KeepsOthers.setCell _ _ _
  have hbw : Below w.heap.size w w4 := by
    rw [← hw4]
    exact (h.below.trans (hb2.mono (by have := h.below.size; omega))).setCell (p := ⟨w.heap.size + 1, 0, none⟩) (by show w.heap.size ≤ w.heap.size + 1; omega) _
  have far : ∀ (x i : Nat), x < W.heap.size → x ≠ w.heap.size + 1 → w4.cell? ⟨x, i, none⟩ = W.cell? ⟨x, i, none⟩ := fun x i hx hne => by
    rw [← hw4, cell_set_far _ _ _ _ _ _ (Ne.symm hne)]
    exact hb2.cell (p := ⟨x, i, none⟩) hx
  have near : ∀ i : Nat, i ≠ 0 → w4.cell? ⟨w.heap.size + 1, i, none⟩ = W.cell? ⟨w.heap.size + 1, i, none⟩ := fun i hne => by
    rw [← hw4, World.cell?_setCell_other _ _ _ _ (by intro e; injection e with e1 e2; exact hne e2.symm)]
    exact hb2.cell (p := ⟨w.heap.size + 1, i, none⟩) (by show w.heap.size + 1 < _; omega)
  have froz : ∀ (x i : Nat), x < W.heap.size → w4.frozen? ⟨x, i, none⟩ = W.frozen? ⟨x, i, none⟩ := fun x i hx => by
    rw [← hw4, World.frozen?_setCell]
    exact hb2.frozen (p := ⟨x, i, none⟩) hx
  have own0 : w4.cell? ⟨w.heap.size + 1, 0, none⟩ = some (.slice (some ⟨w2.heap.size + 1, 0, none⟩) 1 cap) := by
    rw [← hw4]
    exact World.cell?_setCell_same' _ _ _ (by rw [q2]; rfl)
  generalize ((w4.alloc (.cells #[.string slashX] 9)).alloc (.cells R 9)).drew = w5 at hb4 hg0' ⊢
  have up : ∀ (x i : Nat), x < W.heap.size → w5.cell? ⟨x, i, none⟩ = w4.cell? ⟨x, i, none⟩ := fun x i hx => hb4.cell (p := ⟨x, i, none⟩) (by show x < _; omega)
  have upf : ∀ (x i : Nat), x < W.heap.size → w5.frozen? ⟨x, i, none⟩ = W.frozen? ⟨x, i, none⟩ := fun x i hx => (hb4.frozen (p := ⟨x, i, none⟩) (by show x < _; omega)).trans (froz x i hx)
  have hs5 := hb4.size
  refine ⟨⟨hbw.trans (hb4.mono (by have := hbw.size; omega)), by omega, ?_, ?_, ?_, ?_, ?_, ?_, ?_, ?_, ?_, ?_, .inr ⟨by simp, w2.heap.size + 1, cap, ?_, hg0', by omega⟩⟩, ((below_others hb2).trans hk4).trans (below_others hb4)⟩
  · rw [up _ _ (by omega), far _ _ (by omega) (by omega)]; exact h.r0
  · rw [up _ _ (by omega), far _ _ (by omega) (by omega)]; exact h.r1
  · rw [up _ _ (by omega), far _ _ (by omega) (by omega)]; exact h.r2
  · rw [upf _ _ (by omega)]; exact h.rf0
  · rw [upf _ _ (by omega)]; exact h.rf1
  · rw [upf _ _ (by omega)]; exact h.rf2
  · rw [up _ _ (by omega), near _ (by omega)]; exact h.p1
  · rw [up _ _ (by omega), near _ (by omega)]; exact h.p2
  · rw [upf _ _ (by omega)]; exact h.pf0
  · rw [upf _ _ (by omega)]; exact h.pf2
  · rw [up _ _ (by omega)]; exact own0

/-- compilePattern's cells behind its first loop. -/
structure Fin3 (w : World) (D g cap : Nat) (z : Int) (W : World) : Prop where
  below : Below w.heap.size w W
  r0 : W.cell? ⟨w.heap.size, 0, none⟩ = some (.slice none 0 0)
  r1 : W.cell? ⟨w.heap.size, 1, none⟩ = some (.bool false)
  r2 : W.cell? ⟨w.heap.size, 2, none⟩ = some (.int .i64 0)
  rf0 : W.frozen? ⟨w.heap.size, 0, none⟩ = false
  rf1 : W.frozen? ⟨w.heap.size, 1, none⟩ = false
  rf2 : W.frozen? ⟨w.heap.size, 2, none⟩ = false
  p0 : W.cell? ⟨w.heap.size + 1, 0, none⟩ = some (.slice (some ⟨g, 0, none⟩) 1 cap)
  p1 : W.cell? ⟨w.heap.size + 1, 1, none⟩ = some (.bool false)
  p2 : W.cell? ⟨w.heap.size + 1, 2, none⟩ = some (.int .i64 z)
  pf2 : W.frozen? ⟨w.heap.size + 1, 2, none⟩ = false
  gc : W.cell? ⟨g, 0, none⟩ = some (.string slashX)
  hg : w.heap.size + 5 ≤ g
  hK : W.heap[D]? = some (.deferred (some []))

theorem Fin3.set {w W : World} {D g cap : Nat} {z : Int} (h : Fin3 w D g cap z W) (z' : Int) : Fin3 w D g cap z' (W.setCell ⟨w.heap.size + 1, 2, none⟩ (.int .i64 z')) where
  below := h.below.setCell (p := ⟨w.heap.size + 1, 2, none⟩) (by show w.heap.size ≤ w.heap.size + 1; omega) _
  r0 := by rw [cell_set_far _ _ _ _ _ _ (by omega)]; exact h.r0
  r1 := by rw [cell_set_far _ _ _ _ _ _ (by omega)]; exact h.r1
  r2 := by rw [cell_set_far _ _ _ _ _ _ (by omega)]; exact h.r2
  rf0 := by rw [World.frozen?_setCell]; exact h.rf0
  rf1 := by rw [World.frozen?_setCell]; exact h.rf1
  rf2 := by rw [World.frozen?_setCell]; exact h.rf2
  p0 := by rw [World.cell?_setCell_other _ _ _ _ (by simp)]; exact h.p0
  p1 := by rw [World.cell?_setCell_other _ _ _ _ (by simp)]; exact h.p1
  p2 := World.cell?_setCell_same' _ _ _ (by rw [h.p2]; rfl)
  pf2 := by rw [World.frozen?_setCell]; exact h.pf2
  gc := by have := h.hg; rw [cell_set_far _ _ _ _ _ _ (by omega)]; exact h.gc
  hg := h.hg
  hK := (KeepsOthers.setCell W ⟨w.heap.size + 1, 2, none⟩ (.int .i64 z')).same D _ h.hK rfl

set_option maxRecDepth 100000 in
set_option maxHeartbeats 4000000 in
theorem compilePattern_x (w : World) :
    Calls Tryz.prog 24 #[.string ⟨#[47, 120]⟩] w fun e w' => ∃ g cap, e = .returned (.agg #[.slice (some ⟨g, 0, none⟩) 1 cap, .bool false, .int .i64 2]) ∧ Below w.heap.size w w' := by
  have hHP : ∀ W, Calls Tryz.prog 35 #[.string ⟨#[47, 120]⟩, .string ⟨#[47]⟩] W fun e w' => e = .returned (.bool true) ∧ w' = W := fun W => Tryz.strings_HasPrefix ⟨#[47, 120]⟩ ⟨#[47]⟩ W
  have hCS : ∀ W, Calls Tryz.prog 36 #[.string ⟨#[47, 120]⟩, .string ⟨#[36]⟩] W fun e w' => e = .returned (.tuple #[.string ⟨#[47, 120]⟩, .bool false]) ∧ w' = W := fun W => Tryz.strings_CutSuffix ⟨#[47, 120]⟩ ⟨#[36]⟩ W (by decide)
  have hCP : ∀ W, Calls Tryz.prog 38 #[.string slashX] W fun e w' => e = .returned (.string slashX) ∧ Below W.heap.size W w' := fun W => canonicalPath_plain writesByte toldString slashX W (by decide) slashX_plain
  have HHP := hide hHP
  have HCS := hide hCS
  have HCP := hide hCP
  clear hHP hCS hCP
  refine (callsIn_wide (n := 4)).1 ?_
  refine callsIn_of_wp_marks Tryz.func24 rfl trivial ?_ rfl
  simp only [Tryz.ntmps24, List.size_toArray, List.length_cons, List.length_nil, Nat.reduceAdd, Nat.reduceSub, Array.replicate_succ, Array.replicate_zero, List.push_toArray, List.append_toArray, List.nil_append, List.cons_append]
  gi_wp2_with (first
    | (refine ⟨trivial, ?_⟩; gi_at_call 35; refine (callsIn_wide.2 (unhide HHP _)).mono ?_; rintro e w' ⟨rfl, rfl⟩)
    | (refine ⟨trivial, ?_⟩; gi_at_call 36; refine (callsIn_wide.2 (unhide HCS _)).mono ?_; rintro e w' ⟨rfl, rfl⟩)
    | (refine ⟨trivial, ?_⟩; gi_at_call 37; refine (callsIn_wide.2 (splitSeq_any _ _)).mono ?_; rintro e w' ⟨rfl, rfl⟩)
    | (refine ⟨trivial, ?_⟩))
  obtain ⟨W0, hW0, hM0, hz0, c2, c3⟩ := world5 w
  have hW0' : (((((w.alloc (.cells #[.slice none 0 0, .bool false, .int .i64 0] 45)).alloc (.cells #[.slice none 0 0, .bool false, .int .i64 0] 45)).alloc (.cells #[.string ⟨#[47, 120]⟩] 9)).alloc (.cells #[.string ⟨#[42]⟩] 9)).alloc (.cells #[.int .i64 0] 3)) = W0 := hW0
  rw [hW0']
  clear hW0 hW0'
  have hgiv := split_one (w.heap.size + 1 + 1) (w.heap.size + 1 + 1 + 1) (w.heap.size + 1 + 1 + 2) (fun _ => False) slashX W0 (by decide) (by omega) (by omega) c2 c3
  refine range_gives (F := Fence.wide) (n := 4) rfl (by omega) (gf := 94) rfl trivial (enters_of Tryz.func94 (by kernel_rfl) rfl) (by show w.heap.size + 1 + 1 < _; omega) (fun _ h => h.elim) hgiv
    (Mid w) (fun _ _ => False) (mid_own w _ (by omega)) (fun _ _ _ _ h _ _ => h) (mid_set w) hM0
    (fun x => { tmps := #[Value.string { data := #[47, 120] }, undef, Value.pointer (some { block := w.heap.size, off := 0 }),
          Value.pointer (some { block := w.heap.size + 1, off := 0 }), Value.string { data := #[47, 120] },
          Value.bool false, Value.string x, undef, undef, Value.string { data := #[47, 120] }, Value.bool true, Value.bool false,
          Value.bool false, undef, undef, undef, Value.bool false, undef, undef,
          Value.tuple #[Value.string { data := #[47, 120] }, Value.bool false], Value.string { data := #[47, 120] },
          Value.tuple #[Value.string { data := #[47, 120] }, Value.bool false], Value.string { data := #[47, 120] },
          Value.bool false, Value.bool false, undef, undef, Value.string { data := #[47, 120] },
          Value.func (Fn.func 94) #[]
            #[Value.pointer (some { block := w.heap.size + 1 + 1 + 1, off := 0 }),
              Value.pointer (some { block := w.heap.size + 1 + 1, off := 0 }),
              Value.pointer (some { block := w.heap.size + 1 + 1 + 2, off := 0 })],
          Value.string x, undef, undef, undef, undef, undef, undef, undef, undef, undef, undef, undef, undef, undef, undef, undef, undef, undef, undef, undef, undef, undef, undef, undef, undef, undef, undef, undef, undef, undef, undef, undef, undef, undef], defers := [] }) ?assign ?body ?done ?stop
  case assign =>
    intro l x W K hK
    gi_wp2
    exact hK
  case body =>
    rintro l pre x W hpx hI
    obtain ⟨rfl, rfl⟩ : pre = [] ∧ x = slashX := by
      obtain ⟨t, ht⟩ := hpx
      cases pre with
      | nil => simp at ht; exact ⟨rfl, ht.1⟩
      | cons y ys => simp at ht
    have q0 : W.cell? ⟨w.heap.size + 1, 0, none⟩ = some (.slice none 0 0) := by
      rcases hI.p0 with ⟨_, h⟩ | ⟨h, _⟩
      · exact h
      · exact absurd rfl h
    have hsz := hI.size
    have f0 := hI.pf0
    have HI := hide hI
    clear hI hpx
    gi_wp2
    gi_region_with (refine ⟨trivial, ?_⟩; gi_at_call 38; refine (CallsIn.inRound l (callsIn_wide.2 (unhide HCP _))).mono ?_; rintro e w2 ⟨rfl, hb2⟩; obtain ⟨q2, f2, hlt2, hlt1, HM⟩ := part_laid (unhide HI) hb2)
    all_goals exact ⟨(unhide HM _ _ (row_head _ _)).2, (fun _ h => h.elim), (unhide HM _ _ (row_head _ _)).1⟩
  case done =>
    rintro D W hD hI hK
    obtain ⟨g, cap, p0, hgc, hgg⟩ : ∃ g cap, W.cell? ⟨w.heap.size + 1, 0, none⟩ = some (.slice (some ⟨g, 0, none⟩) 1 cap) ∧ W.cell? ⟨g, 0, none⟩ = some (.string slashX) ∧ w.heap.size + 5 ≤ g := by
      rcases hI.p0 with ⟨h, _⟩ | ⟨_, h⟩
      · exact absurd h (by simp)
      · exact h
    obtain ⟨hbW, hszW, r0, r1, r2, rf0, rf1, rf2, p1, p2, pf0, pf2, _⟩ := hI
    have HF0 := hide (⟨hbW, r0, r1, r2, rf0, rf1, rf2, p0, p1, p2, pf2, hgc, hgg, hK⟩ : Fin3 w D g cap 0 W)
    clear hbW hK r0 r1 r2 rf0 rf1 rf2 hgc hgg
    gi_wp2
    have HF1 := hide ((unhide HF0).set 0)
    clear HF0 p0 p1 p2 pf0 pf2
    gi_loopw [45] (fun s45 wx => ∃ z : Int, Hid (Fin3 w D g cap z wx) ∧ ((s45 = .int .i64 0 ∧ z = 0) ∨ (s45 = .int .i64 1 ∧ z = 2)))
      (fun s45 _ => match s45 with | .int _ z => (1 - z).toNat | _ => 0)
    case atStart => exact ⟨0, HF1, .inl ⟨rfl, rfl⟩⟩
    case round =>
      obtain ⟨z, HF, ⟨rfl, rfl⟩ | ⟨rfl, rfl⟩⟩ := hrel
      · have p0 := (unhide HF).p0
        have p2 := (unhide HF).p2
        have pf2 := (unhide HF).pf2
        have gc := (unhide HF).gc
        have hsx : slashX.size = 2 := rfl
        gi_wp2
        refine ⟨⟨2, hide ((unhide HF).set 2), .inr ⟨rfl, rfl⟩⟩, ?_⟩
        show (1 - (1 : Int)).toNat < (1 - (0 : Int)).toNat
        omega
      · have p0 := (unhide HF).p0
        have p1 := (unhide HF).p1
        have p2 := (unhide HF).p2
        have r0 := (unhide HF).r0
        have r1 := (unhide HF).r1
        have r2 := (unhide HF).r2
        have rf0 := (unhide HF).rf0
        have rf1 := (unhide HF).rf1
        have rf2 := (unhide HF).rf2
        have hK := (unhide HF).hK
        have hbE := (unhide HF).below
        have HK := hide hK
        have HB := hide hbE
        clear hK hbE
        gi_wp2
        have k0 : (((wr.setCell ⟨w.heap.size, 0, none⟩ (.slice (some ⟨g, 0, none⟩) 1 cap)).setCell ⟨w.heap.size, 1, none⟩ (.bool false)).setCell ⟨w.heap.size, 2, none⟩ (.int .i64 2)).cell? ⟨w.heap.size, 0, none⟩ = some (.slice (some ⟨g, 0, none⟩) 1 cap) := by
          rw [World.cell?_setCell_other _ _ _ _ (by simp), World.cell?_setCell_other _ _ _ _ (by simp)]; exact World.cell?_setCell_same' _ _ _ (by rw [r0]; rfl)
        have k1 : (((wr.setCell ⟨w.heap.size, 0, none⟩ (.slice (some ⟨g, 0, none⟩) 1 cap)).setCell ⟨w.heap.size, 1, none⟩ (.bool false)).setCell ⟨w.heap.size, 2, none⟩ (.int .i64 2)).cell? ⟨w.heap.size, 1, none⟩ = some (.bool false) := by
          rw [World.cell?_setCell_other _ _ _ _ (by simp)]; exact World.cell?_setCell_same' _ _ _ (by rw [World.cell?_setCell_other _ _ _ _ (by simp), r1]; rfl)
        have k2 : (((wr.setCell ⟨w.heap.size, 0, none⟩ (.slice (some ⟨g, 0, none⟩) 1 cap)).setCell ⟨w.heap.size, 1, none⟩ (.bool false)).setCell ⟨w.heap.size, 2, none⟩ (.int .i64 2)).cell? ⟨w.heap.size, 2, none⟩ = some (.int .i64 2) :=
          World.cell?_setCell_same' _ _ _ (by rw [World.cell?_setCell_other _ _ _ _ (by simp), World.cell?_setCell_other _ _ _ _ (by simp), r2]; rfl)
        have hKX : (((wr.setCell ⟨w.heap.size, 0, none⟩ (.slice (some ⟨g, 0, none⟩) 1 cap)).setCell ⟨w.heap.size, 1, none⟩ (.bool false)).setCell ⟨w.heap.size, 2, none⟩ (.int .i64 2)).heap[D]? = some (.deferred (some [])) :=
          (((KeepsOthers.setCell wr ⟨w.heap.size, 0, none⟩ (.slice (some ⟨g, 0, none⟩) 1 cap)).trans (KeepsOthers.setCell _ ⟨w.heap.size, 1, none⟩ (.bool false))).trans (KeepsOthers.setCell _ ⟨w.heap.size, 2, none⟩ (.int .i64 2))).same D _ (unhide HK) rfl
        have hbX : Below w.heap.size w (((wr.setCell ⟨w.heap.size, 0, none⟩ (.slice (some ⟨g, 0, none⟩) 1 cap)).setCell ⟨w.heap.size, 1, none⟩ (.bool false)).setCell ⟨w.heap.size, 2, none⟩ (.int .i64 2)) :=
          (((unhide HB).setCell (p := ⟨w.heap.size, 0, none⟩) (Nat.le_refl _) _).setCell (p := ⟨w.heap.size, 1, none⟩) (Nat.le_refl _) _).setCell (p := ⟨w.heap.size, 2, none⟩) (Nat.le_refl _) _
        generalize (((wr.setCell ⟨w.heap.size, 0, none⟩ (.slice (some ⟨g, 0, none⟩) 1 cap)).setCell ⟨w.heap.size, 1, none⟩ (.bool false)).setCell ⟨w.heap.size, 2, none⟩ (.int .i64 2)) = X at k0 k1 k2 hKX hbX ⊢
        refine ⟨by simp, .inl ⟨_, _, rfl, run_takeDeferred hKX, ?_⟩⟩
        have h0 := cell_kept k0 (grownBy_putObj' _ D (.deferred none)) (fun r e => by cases e; exact ⟨_, hKX, rfl⟩)
        have h1 := cell_kept k1 (grownBy_putObj' _ D (.deferred none)) (fun r e => by cases e; exact ⟨_, hKX, rfl⟩)
        have h2 := cell_kept k2 (grownBy_putObj' _ D (.deferred none)) (fun r e => by cases e; exact ⟨_, hKX, rfl⟩)
        exact ⟨.agg #[.slice (some ⟨g, 0, none⟩) 1 cap, .bool false, .int .i64 2], by simp [results, Tryz.f24, go_sem, h0, h1, h2], g, cap, rfl, hbX.trans (below_put _ D _ _ hKX (by omega))⟩
  case stop =>
    rintro D pre W hD hpx hI hK
    exact hI.elim

end Go.Proofs.Qxb6615497aGreatDoor
