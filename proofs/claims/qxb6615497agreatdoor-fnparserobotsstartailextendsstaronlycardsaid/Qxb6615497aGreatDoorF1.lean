import Derived.Test.Qxb6615497aGreatDoorW1
/- floats without sign: what '*' and '/' give. -/
namespace Go.Proofs.Qxb6615497aGreatDoor
open Go Go.RowKit

/-- infinity's word. -/
abbrev infW : Nat := 9218868437227405312
abbrev binW : Nat := 4503599627370496

theorem read_low (b : Nat) (h : b < binW) : Ieee.double.read b = .number false b (-1074) := by
  have e1 : Ieee.double.signWeight = 9223372036854775808 := by decide
  have e2 : Ieee.double.binade = binW := by decide
  have e3 : Ieee.double.leastPlace = -1074 := by decide
  unfold Ieee.Format.read
  rw [e1, e2, e3]
  dsimp only
  rw [Nat.mod_eq_of_lt (by unfold binW at h; omega), if_pos h, show b / 9223372036854775808 = 0 from Nat.div_eq_of_lt (by unfold binW at h; omega)]
  rfl
theorem read_mid (b : Nat) (h : binW ≤ b) (h2 : b < infW) : Ieee.double.read b = .number false (binW + b % binW) (-1074 + (b / binW - 1 : Nat)) := by
  have e1 : Ieee.double.signWeight = 9223372036854775808 := by decide
  have e2 : Ieee.double.binade = binW := by decide
  have e3 : Ieee.double.leastPlace = -1074 := by decide
  have e4 : Ieee.double.infRung = infW := by decide
  unfold Ieee.Format.read
  rw [e1, e2, e3, e4]
  dsimp only
  rw [Nat.mod_eq_of_lt (by unfold infW at h2; omega), if_neg (by omega), if_pos h2, show b / 9223372036854775808 = 0 from Nat.div_eq_of_lt (by unfold infW at h2; omega)]
  rfl
theorem read_inf : Ieee.double.read infW = .infinity false := by decide

/-- a word without sign that is no NaN. -/
theorem read_nn (b : Nat) (h : b ≤ infW) : (∃ m e, Ieee.double.read b = .number false m e ∧ m < 2 * binW ∧ (b ≠ 0 → m ≠ 0)) ∨ Ieee.double.read b = .infinity false := by
  by_cases h1 : b < binW
  · exact .inl ⟨b, _, read_low b h1, by omega, fun h => h⟩
  · by_cases h2 : b < infW
    · refine .inl ⟨_, _, read_mid b (by omega) h2, ?_, ?_⟩
      · have := Nat.mod_lt b (show 0 < binW by decide); omega
      · intro _; unfold binW; omega
    · obtain rfl : b = infW := by omega
      exact .inr read_inf

theorem near_le (m : Nat) (e : Int) : Ieee.double.nearest false m e ≤ infW := by
  have e4 : Ieee.double.infRung = infW := by decide
  unfold Ieee.Format.nearest
  split
  · unfold Ieee.Format.word; simp
  · dsimp only
    unfold Ieee.Format.word
    rw [if_neg (by decide), e4]
    exact Nat.min_le_right _ _

theorem write_inf : Ieee.double.write (.infinity false) = infW := by decide

theorem mul_nn (x y : Nat) (hx : x ≤ infW) (hy : y < infW) (hy0 : y ≠ 0) : ∃ r, Ieee.double.mul x y = some r ∧ r ≤ infW := by
  unfold Ieee.Format.mul
  have hyn : ∃ m e, Ieee.double.read y = .number false m e ∧ m ≠ 0 := by
    rcases read_nn y (by omega) with ⟨m, e, h1, _, h3⟩ | h
    · exact ⟨m, e, h1, h3 hy0⟩
    · exfalso
      by_cases h1 : y < binW
      · rw [read_low y h1] at h; cases h
      · rw [read_mid y (by omega) hy] at h; cases h
  obtain ⟨n, j, hr, hn⟩ := hyn
  rcases read_nn x hx with ⟨m, e, h1, _, _⟩ | h
  · exact ⟨_, by rw [h1, hr]; rfl, near_le _ _⟩
  · refine ⟨infW, ?_, Nat.le_refl _⟩
    rw [h, hr]
    simp only [Ieee.Datum.product]
    rw [if_neg hn]
    exact congrArg some write_inf

theorem div_nn (x y : Nat) (hx : x ≤ infW) (hy : y < infW) (hy0 : y ≠ 0) : ∃ r, Ieee.double.div x y = some r ∧ r ≤ infW := by
  unfold Ieee.Format.div
  have hyn : ∃ m e, Ieee.double.read y = .number false m e ∧ m ≠ 0 := by
    rcases read_nn y (by omega) with ⟨m, e, h1, _, h3⟩ | h
    · exact ⟨m, e, h1, h3 hy0⟩
    · exfalso
      by_cases h1 : y < binW
      · rw [read_low y h1] at h; cases h
      · rw [read_mid y (by omega) hy] at h; cases h
  obtain ⟨n, j, hr, hn⟩ := hyn
  rcases read_nn x hx with ⟨m, e, h1, _, _⟩ | h
  · refine ⟨_, ?_, near_le (2 * ((m <<< (Ieee.double.fractionBits + 2 + n.log2 - m.log2)) / n) + ((m <<< (Ieee.double.fractionBits + 2 + n.log2 - m.log2)) % n != 0).toNat) (e - j - (Ieee.double.fractionBits + 2 + n.log2 - m.log2 : Nat) - 1)⟩
    rw [h1, hr]
    simp only [Ieee.Datum.quotient]
    rw [if_neg hn]
    rfl
  · refine ⟨infW, ?_, Nat.le_refl _⟩
    rw [h, hr]
    exact congrArg some write_inf

/-- the product, the quotient. -/
def mulW (x y : Nat) : Nat := (Ieee.double.mul x y).getD 0
def divW (x y : Nat) : Nat := (Ieee.double.div x y).getD 0
theorem mulW_some (x y : Nat) (hx : x ≤ infW) (hy : y < infW) (hy0 : y ≠ 0) : floatBits .mul .f64 x y = some (mulW x y) ∧ mulW x y ≤ infW := by
  obtain ⟨r, h, hr⟩ := mul_nn x y hx hy hy0
  have e : mulW x y = r := by unfold mulW; rw [h]; rfl
  rw [e]
  exact ⟨h, hr⟩
theorem divW_some (x y : Nat) (hx : x ≤ infW) (hy : y < infW) (hy0 : y ≠ 0) : floatBits .quo .f64 x y = some (divW x y) ∧ divW x y ≤ infW := by
  obtain ⟨r, h, hr⟩ := div_nn x y hx hy hy0
  have e : divW x y = r := by unfold divW; rw [h]; rfl
  rw [e]
  exact ⟨h, hr⟩
theorem ofInt_le (d : Int) (h : 0 ≤ d) : floatOfInt .f64 d ≤ infW := by
  show Ieee.double.nearest (decide (d < 0)) d.natAbs 0 ≤ infW
  rw [decide_eq_false (by omega)]
  exact near_le _ _
end Go.Proofs.Qxb6615497aGreatDoor
