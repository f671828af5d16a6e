import Derived.Test.Qxb6606071aDoorD9
/- floatBits: its two loops, without Go. -/
namespace Go.Proofs.Qxb6606071aDoor.Fl
open Go Go.RowKit

def powOf (d : Nat) : Nat := [1, 3, 6, 9, 13, 16, 19, 23, 26].getD d 27
theorem powOf_range (d : Nat) : 1 ≤ powOf d ∧ powOf d ≤ 27 := by
  by_cases h : d < 9
  · have : ∀ i, i < 9 → 1 ≤ powOf i ∧ powOf i ≤ 27 := by decide
    exact this d h
  · unfold powOf
    rw [List.getD_eq_getElem?_getD, List.getElem?_eq_none (by simp; omega)]
    decide

/-- to the right till the point is at the head. -/
def fbR : Nat → Dst → Int → Dst × Int
  | 0, S, e => (S, e)
  | f + 1, S, e => if 0 < S.dp then fbR f (rsS (powOf S.dp.toNat) S) (e + powOf S.dp.toNat) else (S, e)

/-- to the left till the first digit is five or more. -/
def fbL : Nat → Dst → Int → Dst × Int
  | 0, S, e => (S, e)
  | f + 1, S, e => if S.dp < 0 ∨ (S.dp = 0 ∧ S.D 0 < 53) then fbL f (lsS (powOf (-S.dp).toNat) S) (e - powOf (-S.dp).toNat) else (S, e)

theorem lead_le {S : Dst} (hS : Good S) : S.D 0 ≤ 57 := (hS.dig 0 (by have := hS.n1; omega)).2

theorem stepR {S : Dst} (hS : Good S) : Good (rsS (powOf S.dp.toNat) S) ∧ (rsS (powOf S.dp.toNat) S).dp ≤ S.dp ∧ S.dp - 24 ≤ (rsS (powOf S.dp.toNat) S).dp ∧
    10 * (rsS (powOf S.dp.toNat) S).dp + ((rsS (powOf S.dp.toNat) S).D 0 - 48) < 10 * S.dp + (S.D 0 - 48) := by
  have hp := powOf_range S.dp.toNat
  obtain ⟨h1, h2, h3, h4⟩ := right_good hp.1 (by omega) hS
  refine ⟨h1, h2, h3, ?_⟩
  have l1 := lead_le h1
  have l2 := hS.lead
  by_cases e : (rsS (powOf S.dp.toNat) S).dp = S.dp
  · have := h4 e; omega
  · omega

theorem stepL {S : Dst} (hS : Good S) : Good (lsS (powOf (-S.dp).toNat) S) ∧ S.dp ≤ (lsS (powOf (-S.dp).toNat) S).dp ∧ (lsS (powOf (-S.dp).toNat) S).dp ≤ S.dp + 20 ∧
    -10 * (lsS (powOf (-S.dp).toNat) S).dp + (57 - (lsS (powOf (-S.dp).toNat) S).D 0) < -10 * S.dp + (57 - S.D 0) := by
  have hp := powOf_range (-S.dp).toNat
  obtain ⟨h1, h2, h3, h4⟩ := left_good hp.1 (by omega) hS
  refine ⟨h1, h2, h3, ?_⟩
  have l1 := h1.lead
  have l2 := lead_le hS
  by_cases e : (lsS (powOf (-S.dp).toNat) S).dp = S.dp
  · have := h4 e; omega
  · omega

theorem fbR_ok : ∀ (f : Nat) (S : Dst) (e : Int), Good S → 10 * S.dp + (S.D 0 - 48) ≤ f → S.dp ≤ 310 → -330 ≤ S.dp →
    Good (fbR f S e).1 ∧ (fbR f S e).1.dp ≤ 0 ∧ -330 ≤ (fbR f S e).1.dp ∧ e ≤ (fbR f S e).2 ∧ (fbR f S e).2 ≤ e + 27 * f
  | 0, S, e, hS, hm, h1, h2 => by
    have := hS.lead
    exact ⟨hS, by show S.dp ≤ 0; omega, h2, Int.le_refl _, by show e ≤ e + 27 * ((0 : Nat) : Int); omega⟩
  | f + 1, S, e, hS, hm, h1, h2 => by
    unfold fbR
    by_cases hd : 0 < S.dp
    · rw [if_pos hd]
      obtain ⟨s1, s2, s3, s4⟩ := stepR hS
      have hp := powOf_range S.dp.toNat
      obtain ⟨i1, i2, i3, i4, i5⟩ := fbR_ok f (rsS (powOf S.dp.toNat) S) (e + powOf S.dp.toNat) s1 (by omega) (by omega) (by omega)
      exact ⟨i1, i2, i3, by omega, by omega⟩
    · rw [if_neg hd]
      exact ⟨hS, by show S.dp ≤ 0; omega, h2, Int.le_refl _, by show e ≤ e + 27 * ((f + 1 : Nat) : Int); omega⟩

theorem fbL_ok : ∀ (f : Nat) (S : Dst) (e : Int), Good S → -10 * S.dp + (57 - S.D 0) ≤ f → S.dp ≤ 20 → -330 ≤ S.dp →
    Good (fbL f S e).1 ∧ (fbL f S e).1.dp ≤ 20 ∧ -330 ≤ (fbL f S e).1.dp ∧ (fbL f S e).2 ≤ e ∧ e - 27 * f ≤ (fbL f S e).2
  | 0, S, e, hS, hm, h1, h2 => ⟨hS, h1, h2, Int.le_refl _, by show e - 27 * ((0 : Nat) : Int) ≤ e; omega⟩
  | f + 1, S, e, hS, hm, h1, h2 => by
    unfold fbL
    by_cases hd : S.dp < 0 ∨ (S.dp = 0 ∧ S.D 0 < 53)
    · rw [if_pos hd]
      obtain ⟨s1, s2, s3, s4⟩ := stepL hS
      have hp := powOf_range (-S.dp).toNat
      obtain ⟨i1, i2, i3, i4, i5⟩ := fbL_ok f (lsS (powOf (-S.dp).toNat) S) (e - powOf (-S.dp).toNat) s1 (by omega) (by omega) (by omega)
      exact ⟨i1, i2, i3, by omega, by omega⟩
    · rw [if_neg hd]
      exact ⟨hS, h1, h2, Int.le_refl _, by show e - 27 * ((f + 1 : Nat) : Int) ≤ e; omega⟩

theorem wp_scope_two' {P : Program} {a : Act} {w : World} {Q : Exit → Act → World → Prop} {c r1 r2 : Code} (l1 l2 : Nat) (hf1 : findLabel c l1 = some r1) (hf2 : findLabel c l2 = some r2)
    (first : c.wp P (jump2 l1 l2 (fun a w => r1.wp P (Exit.noGoto Q) a w) (fun a w => r2.wp P (Exit.noGoto Q) a w) Q) a w) : (Code.scope c).wp P Q a w :=
  wp_scope_two l1 l2 _ _ hf1 hf2 first (fun _ _ h => h) (fun _ _ h => h)

end Go.Proofs.Qxb6606071aDoor.Fl
