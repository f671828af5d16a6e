import Derived.Test.Qxb6606071aDoorN0
/- floats with a sign: what '*' and '/' give. -/
namespace Go.Proofs.Qxb6606071aDoor.Fl
open Go Go.RowKit

/-- infinity's word. -/
abbrev infW : Nat := 9218868437227405312
abbrev binW : Nat := 4503599627370496
/-- the word of a sign and a rung. -/
def wd (neg : Bool) (x : Nat) : Nat := if neg then 9223372036854775808 + x else x

theorem wd_word (neg : Bool) (x : Nat) : Ieee.double.word neg x = wd neg x := by
  have e1 : Ieee.double.signWeight = 9223372036854775808 := by decide
  unfold Ieee.Format.word wd
  rw [e1]
theorem wd_div (neg : Bool) (b : Nat) (h : b < 9223372036854775808) : (wd neg b / 9223372036854775808 % 2 == 1) = neg ∧ wd neg b % 9223372036854775808 = b := by
  unfold wd
  cases neg
  · rw [if_neg (by decide), Nat.div_eq_of_lt h]
    exact ⟨rfl, Nat.mod_eq_of_lt h⟩
  · rw [if_pos rfl]
    have e : (9223372036854775808 + b) / 9223372036854775808 = 1 := by omega
    rw [e]
    exact ⟨rfl, by omega⟩

theorem read_low (neg : Bool) (b : Nat) (h : b < binW) : Ieee.double.read (wd neg b) = .number neg b (-1074) := by
  have e1 : Ieee.double.signWeight = 9223372036854775808 := by decide
  have e2 : Ieee.double.binade = binW := by decide
  have e3 : Ieee.double.leastPlace = -1074 := by decide
  obtain ⟨d1, d2⟩ := wd_div neg b (by unfold binW at h; omega)
  unfold Ieee.Format.read
  rw [e1, e2, e3]
  dsimp only
  rw [d1, d2, if_pos h]
theorem read_mid (neg : Bool) (b : Nat) (h : binW ≤ b) (h2 : b < infW) : Ieee.double.read (wd neg b) = .number neg (binW + b % binW) (-1074 + (b / binW - 1 : Nat)) := by
  have e1 : Ieee.double.signWeight = 9223372036854775808 := by decide
  have e2 : Ieee.double.binade = binW := by decide
  have e3 : Ieee.double.leastPlace = -1074 := by decide
  have e4 : Ieee.double.infRung = infW := by decide
  obtain ⟨d1, d2⟩ := wd_div neg b (by unfold infW at h2; omega)
  unfold Ieee.Format.read
  rw [e1, e2, e3, e4]
  dsimp only
  rw [d1, d2, if_neg (by omega), if_pos h2]
theorem read_inf (neg : Bool) : Ieee.double.read (wd neg infW) = .infinity neg := by cases neg <;> decide

/-- a word that is no NaN. -/
theorem read_nn (neg : Bool) (b : Nat) (h : b ≤ infW) : (∃ m e, Ieee.double.read (wd neg b) = .number neg m e ∧ m < 2 * binW ∧ (b ≠ 0 → m ≠ 0)) ∨ Ieee.double.read (wd neg b) = .infinity neg := by
  by_cases h1 : b < binW
  · exact .inl ⟨b, _, read_low neg b h1, by omega, fun h => h⟩
  · by_cases h2 : b < infW
    · refine .inl ⟨_, _, read_mid neg b (by omega) h2, ?_, ?_⟩
      · have := Nat.mod_lt b (show 0 < binW by decide); omega
      · intro _; unfold binW; omega
    · obtain rfl : b = infW := by omega
      exact .inr (read_inf neg)

theorem near_le (neg : Bool) (m : Nat) (e : Int) : ∃ r, Ieee.double.nearest neg m e = wd neg r ∧ r ≤ infW := by
  have e4 : Ieee.double.infRung = infW := by decide
  unfold Ieee.Format.nearest
  split
  · exact ⟨0, wd_word _ _, Nat.zero_le _⟩
  · dsimp only
    refine ⟨_, wd_word _ _, ?_⟩
    rw [e4]
    exact Nat.min_le_right _ _

theorem write_inf (neg : Bool) : Ieee.double.write (.infinity neg) = wd neg infW := by cases neg <;> decide

theorem mul_nn (neg : Bool) (x y : Nat) (hx : x ≤ infW) (hy : y < infW) (hy0 : y ≠ 0) : ∃ r, Ieee.double.mul (wd neg x) y = some (wd neg r) ∧ r ≤ infW := by
  unfold Ieee.Format.mul
  have hyn : ∃ m e, Ieee.double.read y = .number false m e ∧ m ≠ 0 := by
    have hw : wd false y = y := rfl
    rw [← hw]
    rcases read_nn false y (by omega) with ⟨m, e, h1, _, h3⟩ | h
    · exact ⟨m, e, h1, h3 hy0⟩
    · exfalso
      by_cases h1 : y < binW
      · rw [read_low false y h1] at h; cases h
      · rw [read_mid false y (by omega) hy] at h; cases h
  obtain ⟨n, j, hr, hn⟩ := hyn
  rcases read_nn neg x hx with ⟨m, e, h1, _, _⟩ | h
  · obtain ⟨r, hr1, hr2⟩ := near_le (neg ^^ false) (m * n) (e + j)
    refine ⟨r, ?_, hr2⟩
    rw [h1, hr]
    rw [Bool.xor_false] at hr1
    simp only [Ieee.Datum.product, Option.map_some, Ieee.Format.write, Bool.xor_false]
    rw [hr1]
  · refine ⟨infW, ?_, Nat.le_refl _⟩
    rw [h, hr]
    simp only [Ieee.Datum.product]
    rw [if_neg hn, Bool.xor_false]
    exact congrArg some (write_inf neg)

theorem div_nn (neg : Bool) (x y : Nat) (hx : x ≤ infW) (hy : y < infW) (hy0 : y ≠ 0) : ∃ r, Ieee.double.div (wd neg x) y = some (wd neg r) ∧ r ≤ infW := by
  unfold Ieee.Format.div
  have hyn : ∃ m e, Ieee.double.read y = .number false m e ∧ m ≠ 0 := by
    have hw : wd false y = y := rfl
    rw [← hw]
    rcases read_nn false y (by omega) with ⟨m, e, h1, _, h3⟩ | h
    · exact ⟨m, e, h1, h3 hy0⟩
    · exfalso
      by_cases h1 : y < binW
      · rw [read_low false y h1] at h; cases h
      · rw [read_mid false y (by omega) hy] at h; cases h
  obtain ⟨n, j, hr, hn⟩ := hyn
  rcases read_nn neg x hx with ⟨m, e, h1, _, _⟩ | h
  · obtain ⟨r, hr1, hr2⟩ := near_le neg (2 * ((m <<< (Ieee.double.fractionBits + 2 + n.log2 - m.log2)) / n) + ((m <<< (Ieee.double.fractionBits + 2 + n.log2 - m.log2)) % n != 0).toNat) (e - j - (Ieee.double.fractionBits + 2 + n.log2 - m.log2 : Nat) - 1)
    refine ⟨r, ?_, hr2⟩
    rw [h1, hr]
    simp only [Ieee.Datum.quotient]
    rw [if_neg hn, Bool.xor_false]
    exact congrArg some hr1
  · refine ⟨infW, ?_, Nat.le_refl _⟩
    rw [h, hr]
    simp only [Ieee.Datum.quotient, Bool.xor_false]
    exact congrArg some (write_inf neg)

/-- the product, the quotient: their rungs. -/
def mulR (neg : Bool) (x y : Nat) : Nat := ((Ieee.double.mul (wd neg x) y).getD 0) % 9223372036854775808
def divR (neg : Bool) (x y : Nat) : Nat := ((Ieee.double.div (wd neg x) y).getD 0) % 9223372036854775808
theorem mulR_some (neg : Bool) (x y : Nat) (hx : x ≤ infW) (hy : y < infW) (hy0 : y ≠ 0) : floatBits .mul .f64 (wd neg x) y = some (wd neg (mulR neg x y)) ∧ mulR neg x y ≤ infW := by
  obtain ⟨r, h, hr⟩ := mul_nn neg x y hx hy hy0
  have e : mulR neg x y = r := by
    unfold mulR; rw [h]
    exact (wd_div neg r (by unfold infW at hr; omega)).2
  rw [e]
  exact ⟨h, hr⟩
theorem divR_some (neg : Bool) (x y : Nat) (hx : x ≤ infW) (hy : y < infW) (hy0 : y ≠ 0) : floatBits .quo .f64 (wd neg x) y = some (wd neg (divR neg x y)) ∧ divR neg x y ≤ infW := by
  obtain ⟨r, h, hr⟩ := div_nn neg x y hx hy hy0
  have e : divR neg x y = r := by
    unfold divR; rw [h]
    exact (wd_div neg r (by unfold infW at hr; omega)).2
  rw [e]
  exact ⟨h, hr⟩
theorem ofInt_le (d : Int) (h : 0 ≤ d) : floatOfInt .f64 d ≤ infW := by
  show Ieee.double.nearest (decide (d < 0)) d.natAbs 0 ≤ infW
  rw [decide_eq_false (by omega)]
  obtain ⟨r, h1, h2⟩ := near_le false d.natAbs 0
  rw [h1]
  exact h2
/-- '-f' of a float without sign. -/
theorem neg_wd (x : Nat) (h : x ≤ infW) : Op.negFloat .f64 x = wd true x := by
  unfold Op.negFloat
  show x ^^^ 2 ^ 63 = 9223372036854775808 + x
  have hx : x < 2 ^ 63 := by unfold infW at h; omega
  have e := Nat.two_pow_add_eq_or_of_lt hx 1
  rw [Nat.mul_one] at e
  rw [show (9223372036854775808 : Nat) = 2 ^ 63 by decide, e]
  apply Nat.eq_of_testBit_eq
  intro i
  rw [Nat.testBit_xor, Nat.testBit_or, Nat.testBit_two_pow]
  by_cases hi : 63 = i
  · subst hi
    rw [Nat.testBit_lt_two_pow hx]; simp
  · simp [hi]
end Go.Proofs.Qxb6606071aDoor.Fl
