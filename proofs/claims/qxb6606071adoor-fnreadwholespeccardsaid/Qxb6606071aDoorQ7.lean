import Derived.Test.Qxb6606071aDoorPlain2
namespace Go.Proofs.Qxb6606071aDoor
open Go.RowKit

/-- seven cells of a block. -/
structure Q7 (X : World) (b : Nat) (v0 v1 v2 v3 v4 v5 v6 : Value) : Prop where
  c0 : X.cell? ⟨b, 0, none⟩ = some v0
  c1 : X.cell? ⟨b, 1, none⟩ = some v1
  c2 : X.cell? ⟨b, 2, none⟩ = some v2
  c3 : X.cell? ⟨b, 3, none⟩ = some v3
  c4 : X.cell? ⟨b, 4, none⟩ = some v4
  c5 : X.cell? ⟨b, 5, none⟩ = some v5
  c6 : X.cell? ⟨b, 6, none⟩ = some v6
theorem Q7.set0 {X : World} {b : Nat} {v0 v1 v2 v3 v4 v5 v6 : Value} (h : Q7 X b v0 v1 v2 v3 v4 v5 v6) (x : Value) : Q7 (X.setCell ⟨b, 0, none⟩ x) b x v1 v2 v3 v4 v5 v6 := by
  obtain ⟨c0, c1, c2, c3, c4, c5, c6⟩ := h
  exact ⟨by go_simp, by go_simp, by go_simp, by go_simp, by go_simp, by go_simp, by go_simp⟩
theorem Q7.set1 {X : World} {b : Nat} {v0 v1 v2 v3 v4 v5 v6 : Value} (h : Q7 X b v0 v1 v2 v3 v4 v5 v6) (x : Value) : Q7 (X.setCell ⟨b, 1, none⟩ x) b v0 x v2 v3 v4 v5 v6 := by
  obtain ⟨c0, c1, c2, c3, c4, c5, c6⟩ := h
  exact ⟨by go_simp, by go_simp, by go_simp, by go_simp, by go_simp, by go_simp, by go_simp⟩
theorem Q7.set2 {X : World} {b : Nat} {v0 v1 v2 v3 v4 v5 v6 : Value} (h : Q7 X b v0 v1 v2 v3 v4 v5 v6) (x : Value) : Q7 (X.setCell ⟨b, 2, none⟩ x) b v0 v1 x v3 v4 v5 v6 := by
  obtain ⟨c0, c1, c2, c3, c4, c5, c6⟩ := h
  exact ⟨by go_simp, by go_simp, by go_simp, by go_simp, by go_simp, by go_simp, by go_simp⟩
theorem Q7.set3 {X : World} {b : Nat} {v0 v1 v2 v3 v4 v5 v6 : Value} (h : Q7 X b v0 v1 v2 v3 v4 v5 v6) (x : Value) : Q7 (X.setCell ⟨b, 3, none⟩ x) b v0 v1 v2 x v4 v5 v6 := by
  obtain ⟨c0, c1, c2, c3, c4, c5, c6⟩ := h
  exact ⟨by go_simp, by go_simp, by go_simp, by go_simp, by go_simp, by go_simp, by go_simp⟩
theorem Q7.set4 {X : World} {b : Nat} {v0 v1 v2 v3 v4 v5 v6 : Value} (h : Q7 X b v0 v1 v2 v3 v4 v5 v6) (x : Value) : Q7 (X.setCell ⟨b, 4, none⟩ x) b v0 v1 v2 v3 x v5 v6 := by
  obtain ⟨c0, c1, c2, c3, c4, c5, c6⟩ := h
  exact ⟨by go_simp, by go_simp, by go_simp, by go_simp, by go_simp, by go_simp, by go_simp⟩
theorem Q7.set5 {X : World} {b : Nat} {v0 v1 v2 v3 v4 v5 v6 : Value} (h : Q7 X b v0 v1 v2 v3 v4 v5 v6) (x : Value) : Q7 (X.setCell ⟨b, 5, none⟩ x) b v0 v1 v2 v3 v4 x v6 := by
  obtain ⟨c0, c1, c2, c3, c4, c5, c6⟩ := h
  exact ⟨by go_simp, by go_simp, by go_simp, by go_simp, by go_simp, by go_simp, by go_simp⟩
theorem Q7.set6 {X : World} {b : Nat} {v0 v1 v2 v3 v4 v5 v6 : Value} (h : Q7 X b v0 v1 v2 v3 v4 v5 v6) (x : Value) : Q7 (X.setCell ⟨b, 6, none⟩ x) b v0 v1 v2 v3 v4 v5 x := by
  obtain ⟨c0, c1, c2, c3, c4, c5, c6⟩ := h
  exact ⟨by go_simp, by go_simp, by go_simp, by go_simp, by go_simp, by go_simp, by go_simp⟩
theorem Q7.other {X : World} {b : Nat} {v0 v1 v2 v3 v4 v5 v6 : Value} (h : Q7 X b v0 v1 v2 v3 v4 v5 v6) (j : Nat) (x : Value) : Q7 (X.setCell ⟨b + 1, j, none⟩ x) b v0 v1 v2 v3 v4 v5 v6 := by
  have hne : ∀ i, (⟨b + 1, j, none⟩ : Addr) ≠ ⟨b, i, none⟩ := fun i e => by
    have := congrArg Addr.block e
    simp at this
  obtain ⟨c0, c1, c2, c3, c4, c5, c6⟩ := h
  exact ⟨by rw [World.cell?_setCell_other _ _ _ _ (hne 0)]; exact c0, by rw [World.cell?_setCell_other _ _ _ _ (hne 1)]; exact c1, by rw [World.cell?_setCell_other _ _ _ _ (hne 2)]; exact c2, by rw [World.cell?_setCell_other _ _ _ _ (hne 3)]; exact c3, by rw [World.cell?_setCell_other _ _ _ _ (hne 4)]; exact c4, by rw [World.cell?_setCell_other _ _ _ _ (hne 5)]; exact c5, by rw [World.cell?_setCell_other _ _ _ _ (hne 6)]; exact c6⟩
theorem fin7 {R : Ending → World → Prop} {a : Act} {W : World} {b : Nat} {v0 v1 v2 v3 v4 v5 v6 : Value} (hq : Q7 W b v0 v1 v2 v3 v4 v5 v6) (h2 : a.tmps[2]?.getD undef = .pointer (some ⟨b, 0, none⟩)) (hd : a.defers = []) (hR : R (.returned (.agg #[v0, v1, v2, v3, v4, v5, v6])) W) : bodyPost Tryd.prog Tryd.f7 R .ret a W := by
  obtain ⟨c0, c1, c2, c3, c4, c5, c6⟩ := hq
  exact bodyPost_ret (v := .agg #[v0, v1, v2, v3, v4, v5, v6]) (by simp [results, Tryd.results7, go_sem, h2, c0, c1, c2, c3, c4, c5, c6]) hd hR
end Go.Proofs.Qxb6606071aDoor
