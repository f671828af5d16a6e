import Derived.Test.Qxb6615497aGreatDoorG21
import Derived.Test.Qxb6615497aGreatDoorH1
import Derived.BigQuiet
/- the law's callees. -/
namespace Go.Proofs.Qxb6615497aGreatDoor
open Go Go.RowKit

theorem rules_of_row {base : Nat} {p : Option Addr} {k : Nat} {rs : List (Bool × ByteArray)} {W : World} (h : RowIs base (.slice p rs.length k) rs W) : RuleCells p rs W := fun i a v hi => by
  obtain ⟨xs, ho, hx⟩ := h
  have hlt : i < rs.length := (List.getElem?_eq_some_iff.1 hi).1
  obtain ⟨g, cap, e, _, _⟩ := ho.form (by omega)
  injection e with e1 e2 e3
  subst e1
  obtain ⟨h0, h1⟩ := hx i a v hi
  refine ⟨g, rfl, ?_, ?_⟩
  · rw [ho.cellAt (i * 5) (by omega), Nat.mul_comm]; exact h0
  · rw [ho.cellAt (i * 5 + 1) (by omega), Nat.mul_comm]; exact h1

set_option maxHeartbeats 1000000 in
/-- ZZparseRobots hands on what parseRobots gives. -/
theorem zzParse_any (bodyV : Value) (tok : ByteArray) (l : List UInt8) (w : World)
    (h : ∀ W, Below w.heap.size w W → Calls Tryz.prog 18 #[bodyV, .string tok] W fun e w' => Parsed tok l (W.heap.size + 3) e w' ∧ Below W.heap.size W w') :
    Calls Tryz.prog 6 #[bodyV, .string tok] w fun e w' => ∃ p k, e = .returned (.agg #[.slice p (parseF tok (robotLines l)).1.length k, .int .i64 (parseF tok (robotLines l)).2]) ∧ RuleCells p (parseF tok (robotLines l)).1 w' ∧ Below w.heap.size w w' := by
  obtain ⟨w0, hw0⟩ : ∃ w0, w.alloc (.cells #[.slice none 0 0, .int .i64 0] 26) = w0 := ⟨_, rfl⟩
  have hb0 : Below w.heap.size w w0 := by rw [← hw0]; exact (Below.refl _ w).alloc (Nat.le_refl _) _
  have hz : w0.heap.size = w.heap.size + 1 := by rw [← hw0]; simp
  have k0 : w0.cell? ⟨w.heap.size, 0, none⟩ = some (.slice none 0 0) := by rw [← hw0]; simp
  have k1 : w0.cell? ⟨w.heap.size, 1, none⟩ = some (.int .i64 0) := by rw [← hw0]; simp
  have f0 : w0.frozen? ⟨w.heap.size, 0, none⟩ = false := by rw [← hw0]; simp
  have f1 : w0.frozen? ⟨w.heap.size, 1, none⟩ = false := by rw [← hw0]; simp
  have H := hide (h w0 hb0)
  unfold Parsed at H
  clear h
  generalize parseF tok (robotLines l) = G at H ⊢
  have HK := hide (And.intro hb0 (And.intro hz (And.intro k0 (And.intro k1 (And.intro f0 f1)))))
  clear hb0 hz k0 k1 f0 f1
  go_enter Tryz.func6, Tryz.ntmps6
  go_wp2_with (go_at_call 18; refine (unhide H).mono ?_; rintro e w1 ⟨⟨p, k, rfl, hR⟩, hb1⟩; obtain ⟨hb0, hz, k0, k1, f0, f1⟩ := unhide HK; have j0 := (hb1.cell (p := ⟨w.heap.size, 0, none⟩) (by show w.heap.size < _; omega)).trans k0; have j1 := (hb1.cell (p := ⟨w.heap.size, 1, none⟩) (by show w.heap.size < _; omega)).trans k1; have i0 := (hb1.frozen (p := ⟨w.heap.size, 0, none⟩) (by show w.heap.size < _; omega)).trans f0; have i1 := (hb1.frozen (p := ⟨w.heap.size, 1, none⟩) (by show w.heap.size < _; omega)).trans f1; have HB := hide (And.intro hz (And.intro hR (hb0.trans (hb1.mono (by omega))))); clear hb0 hz k0 k1 f0 f1 hb1 hR)
  have c0 : ((w1.setCell ⟨w.heap.size, 0, none⟩ (.slice p G.1.length k)).setCell ⟨w.heap.size, 1, none⟩ (.int .i64 G.2)).cell? ⟨w.heap.size, 0, none⟩ = some (.slice p G.1.length k) := by
    rw [World.cell?_setCell_other _ _ _ _ (by simp), World.cell?_setCell_same' _ _ _ (by rw [j0]; rfl)]
  have c1 : ((w1.setCell ⟨w.heap.size, 0, none⟩ (.slice p G.1.length k)).setCell ⟨w.heap.size, 1, none⟩ (.int .i64 G.2)).cell? ⟨w.heap.size, 1, none⟩ = some (.int .i64 G.2) :=
    World.cell?_setCell_same' _ _ _ (by rw [World.cell?_setCell_other _ _ _ _ (by simp), j1]; rfl)
  have hRE : RuleCells p G.1 ((w1.setCell ⟨w.heap.size, 0, none⟩ (.slice p G.1.length k)).setCell ⟨w.heap.size, 1, none⟩ (.int .i64 G.2)) := by
    obtain ⟨hz, ⟨xs, ho, hx⟩, _⟩ := unhide HB
    exact rules_of_row ⟨xs, row_set (row_set ho _ _ _ (by omega)) _ _ _ (by omega), hx⟩
  have hbE : Below w.heap.size w ((w1.setCell ⟨w.heap.size, 0, none⟩ (.slice p G.1.length k)).setCell ⟨w.heap.size, 1, none⟩ (.int .i64 G.2)) :=
    ((unhide HB).2.2.setCell (p := ⟨w.heap.size, 0, none⟩) (Nat.le_refl _) _).setCell (p := ⟨w.heap.size, 1, none⟩) (Nat.le_refl _) _
  generalize ((w1.setCell ⟨w.heap.size, 0, none⟩ (.slice p G.1.length k)).setCell ⟨w.heap.size, 1, none⟩ (.int .i64 G.2)) = wE at c0 c1 hRE hbE ⊢
  exact bodyPost_ret (v := .agg #[.slice p G.1.length k, .int .i64 G.2]) (by simp [results, Tryz.results6, go_sem, c0, c1]) rfl ⟨p, k, rfl, hRE, hbE⟩

theorem zz_body (v : Value) (tok : ByteArray) (htok : tok.size ≤ 16777216) (l : List UInt8) (hl : l.length ≤ 1048576) (w : World) (hB : BodyIs v l w) (hT : AllTabs w) :
    Calls Tryz.prog 6 #[v, .string tok] w fun e w' => ∃ p k, e = .returned (.agg #[.slice p (parseF tok (robotLines l)).1.length k, .int .i64 (parseF tok (robotLines l)).2]) ∧ RuleCells p (parseF tok (robotLines l)).1 w' ∧ Below w.heap.size w w' := by
  refine zzParse_any v tok l w fun W hW => ?_
  rcases hB with ⟨rfl, rfl⟩ | ⟨b, c, rfl, hc, hH⟩
  · exact parse_nil tok htok W (hT.below hW)
  · exact parse_some tok htok b c l W ((show Holds w b 0 l from hH).below hW) hl hc (hT.below hW)
end Go.Proofs.Qxb6615497aGreatDoor
