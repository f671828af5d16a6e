import Derived.Test.Qxb6614997aFmtPlain
import Derived.Lib.IndexMore
import Derived.Lib.IndexBytes
/- The shelf's words (indexByte, cut) against the plain functions. -/
namespace Go.Proofs.Qxb6614997aFmt.Pl
open Go

theorem idx_split (c : UInt8) : ∀ (l : List UInt8), (Lib.indexByte l c = -1 ∧ (∀ d ∈ l, d ≠ c)) ∨ (∃ a b, l = a ++ c :: b ∧ (∀ d ∈ a, d ≠ c) ∧ Lib.indexByte l c = (a.length : Int))
  | [] => .inl ⟨rfl, by simp⟩
  | d :: r => by
    by_cases e : d = c
    · subst e
      exact .inr ⟨[], r, rfl, by simp, by simp [Lib.indexByte]⟩
    · rcases idx_split c r with ⟨h, hn⟩ | ⟨a, b, rfl, hn, h⟩
      · refine .inl ⟨by simp [Lib.indexByte, e, h], ?_⟩
        intro x hx
        simp at hx
        rcases hx with rfl | hx
        · exact e
        · exact hn x hx
      · refine .inr ⟨d :: a, b, rfl, ?_, ?_⟩
        · intro x hx
          simp at hx
          rcases hx with rfl | hx
          · exact e
          · exact hn x hx
        · simp only [Lib.indexByte]
          rw [h]
          simp [e]

theorem takeWhile_all : ∀ (a b : List UInt8) (c : UInt8), (∀ d ∈ a, d ≠ c) → (a ++ c :: b).takeWhile (· != c) = a ∧ (a ++ c :: b).dropWhile (· != c) = c :: b
  | [], b, c, _ => by simp
  | d :: a, b, c, h => by
    have hd := h d (by simp)
    obtain ⟨h1, h2⟩ := takeWhile_all a b c (fun x hx => h x (by simp [hx]))
    simp [hd, h1, h2]

theorem takeWhile_none : ∀ (a : List UInt8) (c : UInt8), (∀ d ∈ a, d ≠ c) → a.takeWhile (· != c) = a ∧ a.dropWhile (· != c) = []
  | [], c, _ => by simp
  | d :: a, c, h => by
    have hd := h d (by simp)
    obtain ⟨h1, h2⟩ := takeWhile_none a c (fun x hx => h x (by simp [hx]))
    simp [hd, h1, h2]

theorem key_amp (a b : List UInt8) (h : ∀ d ∈ a, d ≠ 61) : keyOf (a ++ 61 :: b) = a ∧ valOf (a ++ 61 :: b) = b := by
  obtain ⟨h1, h2⟩ := takeWhile_all a b 61 h
  unfold keyOf valOf
  rw [h1, h2]
  exact ⟨rfl, rfl⟩

theorem key_none (a : List UInt8) (h : ∀ d ∈ a, d ≠ 61) : keyOf a = a ∧ valOf a = [] := by
  obtain ⟨h1, h2⟩ := takeWhile_none a 61 h
  unfold keyOf valOf
  rw [h1, h2]
  exact ⟨rfl, rfl⟩

theorem cut_eq (l : List UInt8) : (Lib.cut l [61]).1 = keyOf l ∧ (Lib.cut l [61]).2.1 = valOf l := by
  unfold Lib.cut
  rw [Lib.index_one]
  rcases idx_split 61 l with ⟨h, hn⟩ | ⟨a, b, rfl, hn, h⟩
  · rw [h]
    obtain ⟨h1, h2⟩ := key_none l hn
    simp [h1, h2]
  · rw [h]
    obtain ⟨h1, h2⟩ := key_amp a b hn
    rw [h1, h2]
    simp

theorem semi_eq (l : List UInt8) : decide (0 ≤ Lib.indexByte l 59) = l.contains 59 := by
  rcases idx_split 59 l with ⟨h, hn⟩ | ⟨a, b, rfl, hn, h⟩
  · rw [h]
    have : l.contains 59 = false := by
      rw [List.contains_eq_any_beq, List.any_eq_false]
      intro x hx
      have := hn x hx
      simpa using this.symm
    rw [this]; rfl
  · rw [h]
    simp

theorem keyOf_length (l : List UInt8) : (keyOf l).length ≤ l.length := by
  unfold keyOf; exact (List.takeWhile_sublist _).length_le
theorem valOf_length (l : List UInt8) : (valOf l).length ≤ l.length := by
  unfold valOf
  have := (List.dropWhile_sublist (p := (· != 61)) (l := l)).length_le
  simp; omega

end Go.Proofs.Qxb6614997aFmt.Pl
