import Derived.Test.Qxb6606071aDoorW2
/- The automaton's answer in the scanner's words. -/
namespace Go.Proofs.Qxb6606071aDoor
open Pl

theorem tailE_at (l : List UInt8) (k : Nat) (p : Int) : tailE (l.drop k) k p = (((endOf l k : Nat) : Int), p, if eAt l k then (k : Int) else -1) := by
  have e2 : l[k]? = (l.drop k).head? := by rw [List.head?_drop]
  have e3 : l.drop (k + 1) = (l.drop k).tail := by rw [List.tail_drop]
  unfold endOf exOf eAt
  rw [e2, e3]
  cases l.drop k with
  | nil => rfl
  | cons c r =>
    simp only [tailE, List.head?_cons, List.tail_cons]
    by_cases he : isE c = true
    · simp only [he, if_true]
      cases ex r with
      | none => rfl
      | some n => simp
    · simp [he]

theorem dot_at (l : List UInt8) (k : Nat) : (l.drop k = [] ∧ dotAt l k = false) ∨ (∃ c, l.drop k = c :: l.drop (k + 1) ∧ dotAt l k = (c == 46)) := by
  have e2 : l[k]? = (l.drop k).head? := by rw [List.head?_drop]
  have e3 : l.drop (k + 1) = (l.drop k).tail := by rw [List.tail_drop]
  unfold dotAt
  rw [e2, e3]
  cases l.drop k with
  | nil => exact .inl ⟨rfl, rfl⟩
  | cons c r => exact .inr ⟨c, rfl, rfl⟩

theorem model_out (l : List UInt8) (e0 i1 e1 : Nat) (h0 : sg l = e0) (h1 : nd (l.drop e0) = i1) (h2 : e1 = e0 + i1) :
    (i1 = 0 ∧ frOf l e1 = 0 ∧ (run l 0 0 (-1) (-1) (-1)).1 = -1) ∨ (¬ (i1 = 0 ∧ frOf l e1 = 0) ∧ run l 0 0 (-1) (-1) (-1) = (((endOf l (e2Of l i1 e1) : Nat) : Int), (if dotAt l e1 then (e1 : Int) else -1), if eAt l (e2Of l i1 e1) then ((e2Of l i1 e1 : Nat) : Int) else -1)) := by
  rw [run0, h0]
  unfold tailS
  rw [h1]
  by_cases hi : i1 = 0
  · rw [if_pos hi]
    have e10 : e1 = e0 := by omega
    subst e10
    rcases dot_at l e1 with ⟨hn, hd⟩ | ⟨c, hc, hd⟩
    · left
      refine ⟨hi, by unfold frOf; rw [hd]; rfl, ?_⟩
      rw [hn]
    · rw [hc]
      by_cases h46 : c = 46
      · subst h46
        have hd1 : dotAt l e1 = true := hd
        simp only [if_true]
        by_cases hf : nd (l.drop (e1 + 1)) = 0
        · left
          refine ⟨hi, by unfold frOf; rw [hd1]; exact hf, ?_⟩
          rw [if_pos hf]
        · right
          refine ⟨fun h => hf (by have := h.2; unfold frOf at this; rw [hd1] at this; exact this), ?_⟩
          rw [if_neg hf]
          have e2 : e2Of l i1 e1 = e1 + 1 + nd (l.drop (e1 + 1)) := by unfold e2Of; rw [hd1]; simp [hf]
          rw [e2, hd1, List.drop_drop, tailE_at]
          rfl
      · left
        have hd0 : dotAt l e1 = false := by rw [hd]; simpa using h46
        refine ⟨hi, by unfold frOf; rw [hd0]; rfl, ?_⟩
        simp [h46]
  · rw [if_neg hi]
    right
    refine ⟨fun h => hi h.1, ?_⟩
    rw [List.drop_drop, ← h2]
    rcases dot_at l e1 with ⟨hn, hd⟩ | ⟨c, hc, hd⟩
    · have e2 : e2Of l i1 e1 = e1 := by unfold e2Of; rw [hd]; rfl
      have ht := tailE_at l e1 (-1)
      rw [hn] at ht
      rw [hn, e2, hd]
      exact ht
    · by_cases h46 : c = 46
      · subst h46
        have hd1 : dotAt l e1 = true := hd
        have e2 : e2Of l i1 e1 = e1 + 1 + nd (l.drop (e1 + 1)) := by unfold e2Of; rw [hd1]; simp [hi]
        rw [hc, e2, hd1]
        simp only [tailI, if_true]
        rw [List.drop_drop, tailE_at]
      · have hd0 : dotAt l e1 = false := by rw [hd]; simpa using h46
        have e2 : e2Of l i1 e1 = e1 := by unfold e2Of; rw [hd0]; rfl
        have ht := tailE_at l e1 (-1)
        rw [hc] at ht
        rw [hc, e2, hd0]
        simp only [tailI, h46, if_false]
        exact ht

/-- where the point stands. -/
theorem dot_facts (T : ByteArray) (i1 e1 : Nat) (hnf : ¬ (i1 = 0 ∧ frOf T.data.toList e1 = 0)) :
    (dotAt T.data.toList e1 = false ∧ e2Of T.data.toList i1 e1 = e1 ∧ FOf T e1 = emptyB) ∨ (dotAt T.data.toList e1 = true ∧ e1 + 1 ≤ e2Of T.data.toList i1 e1 ∧ FOf T e1 = T.extract (e1 + 1) (e2Of T.data.toList i1 e1)) := by
  cases hd : dotAt T.data.toList e1 with
  | false =>
    left
    exact ⟨rfl, by unfold e2Of; rw [hd]; rfl, by unfold FOf; rw [hd]; rfl⟩
  | true =>
    right
    have hne : ¬ (i1 = 0 ∧ nd (T.data.toList.drop (e1 + 1)) = 0) := by
      intro h; apply hnf; refine ⟨h.1, ?_⟩; unfold frOf; rw [hd]; exact h.2
    have e2 : e2Of T.data.toList i1 e1 = e1 + 1 + nd (T.data.toList.drop (e1 + 1)) := by unfold e2Of; rw [hd]; simp [hne]
    exact ⟨rfl, by rw [e2]; omega, by unfold FOf; rw [hd, e2]; rfl⟩

/-- where the e stands. -/
theorem e_facts (T : ByteArray) (e2 : Nat) :
    (eAt T.data.toList e2 = false ∧ endOf T.data.toList e2 = e2 ∧ XOf T e2 = emptyB) ∨ (eAt T.data.toList e2 = true ∧ endOf T.data.toList e2 = e2 ∧ XOf T e2 = emptyB) ∨ (eAt T.data.toList e2 = true ∧ e2 + 1 ≤ endOf T.data.toList e2 ∧ XOf T e2 = T.extract (e2 + 1) (endOf T.data.toList e2)) := by
  have h := exAll T e2
  cases he : eAt T.data.toList e2 with
  | false => exact .inl ⟨rfl, (h.1 he).1, (h.1 he).2⟩
  | true =>
    right
    by_cases h0 : nd (T.data.toList.drop (xOf T.data.toList e2)) = 0
    · exact .inl ⟨rfl, ((h.2 he).1 h0).1, ((h.2 he).1 h0).2⟩
    · right
      obtain ⟨a, b⟩ := (h.2 he).2 h0
      have : e2 + 1 ≤ xOf T.data.toList e2 := by unfold xOf; split <;> omega
      exact ⟨rfl, by rw [a]; omega, by rw [b, a]⟩

/-- found: something stands. -/
theorem found_pos (l : List UInt8) (e0 i1 e1 : Nat) (h2 : e1 = e0 + i1) (hnf : ¬ (i1 = 0 ∧ frOf l e1 = 0)) : 1 ≤ e2Of l i1 e1 := by
  unfold e2Of
  by_cases hi : i1 = 0
  · cases hd : dotAt l e1 with
    | false => exfalso; apply hnf; refine ⟨hi, ?_⟩; unfold frOf; rw [hd]; rfl
    | true =>
      have hf : nd (l.drop (e1 + 1)) ≠ 0 := by intro h; apply hnf; refine ⟨hi, ?_⟩; unfold frOf; rw [hd]; exact h
      simp only [if_true]
      split <;> omega
  · split
    · split <;> omega
    · omega
end Go.Proofs.Qxb6606071aDoor
