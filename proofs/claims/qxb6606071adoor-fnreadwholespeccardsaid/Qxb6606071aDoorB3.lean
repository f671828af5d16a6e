import Derived.Test.Qxb6606071aDoorB2
import Derived.Test.Qxb6606071aDoorD12
/- floatBits at a whole number of twenty digits and more: it lies at or beyond 2^63. -/
namespace Go.Proofs.Qxb6606071aDoor.Fl
open Go Go.RowKit

theorem ten_mono (a b : Nat) (h : a ≤ b) : (10 : Int) ^ a ≤ 10 ^ b := by
  have e : (10 : Int) ^ b = 10 ^ a * 10 ^ (b - a) := by rw [← pow_add10]; exact congrArg _ (by omega)
  have p := ten_pos (b - a)
  have : (10 : Int) ^ a * 1 ≤ 10 ^ a * 10 ^ (b - a) := Int.mul_le_mul_of_nonneg_left (by omega) (Int.le_of_lt (ten_pos a))
  rw [e]
  omega

theorem U_pos {S : Dst} (hS : Good S) : 0 < U S := by
  have h1 := (good_V hS).1
  have hl := hS.lead
  have p := ten_pos (S.nd - 1)
  have : 1 * 10 ^ (S.nd - 1) ≤ (S.D 0 - 48) * 10 ^ (S.nd - 1) := Int.mul_le_mul_of_nonneg_right (by omega) (Int.le_of_lt p)
  exact Int.mul_pos (by omega) (ten_pos _)

theorem mixq1 (v X K Y b : Int) : v * X * K * (Y * b) = v * Y * b * (X * K) := by
  rw [← Int.mul_assoc, ← Int.mul_assoc, Int.mul_right_comm (v * X) K Y, Int.mul_right_comm v X Y, Int.mul_right_comm (v * Y * X) K b, Int.mul_right_comm (v * Y) X b]
theorem mixq3 (u a Y b : Int) : u * a * (Y * b) = u * (Y * (a * b)) := by rw [Int.mul_assoc, Int.mul_left_comm a Y b]
theorem mixq4 (c T Y d : Int) : c * T * (Y * d) = T * (c * d * Y) := by rw [Int.mul_comm c T, Int.mul_assoc T, Int.mul_comm Y d, ← Int.mul_assoc c]

/-- two losses, one behind the other. -/
theorem lose_both {u v w : Int} {j : Int} (hu : 0 ≤ u) (hj : 0 ≤ j) (hj2 : j ≤ 1000000000) (h1 : u * 999999999 ≤ v * 1000000000) (h2 : v * (1000000000 - j) ≤ w * 1000000000) : u * (1000000000 - (j + 1)) ≤ w * 1000000000 := by
  have a1 : u * 999999999 * (1000000000 - j) ≤ v * 1000000000 * (1000000000 - j) := Int.mul_le_mul_of_nonneg_right h1 (by omega)
  have a2 : v * (1000000000 - j) * 1000000000 ≤ w * 1000000000 * 1000000000 := Int.mul_le_mul_of_nonneg_right h2 (by decide)
  have e1 : v * 1000000000 * (1000000000 - j) = v * (1000000000 - j) * 1000000000 := Int.mul_right_comm _ _ _
  have e2 : u * 999999999 * (1000000000 - j) = u * (1000000000 - (j + 1)) * 1000000000 + u * j := by
    have h1 : u * 999999999 * (1000000000 - j) = u * 999999999 * 1000000000 - 999999999 * (u * j) := by rw [Int.mul_sub, Int.mul_right_comm u 999999999 j, Int.mul_comm (u * j)]
    have h2 : u * (1000000000 - (j + 1)) = u * 1000000000 - (u * j + u) := by rw [Int.mul_sub, Int.mul_add, Int.mul_one]
    rw [h1, h2]
    omega
  have a3 : 0 ≤ u * j := Int.mul_nonneg hu hj
  have : u * (1000000000 - (j + 1)) * 1000000000 ≤ w * 1000000000 * 1000000000 := by omega
  exact Int.le_of_mul_le_mul_right this (by decide)

theorem fbR_val : ∀ (f : Nat) (S : Dst) (e : Int), f ≤ 3200 → Good S → 10 * S.dp + (S.D 0 - 48) ≤ f → S.dp ≤ 310 → -330 ≤ S.dp →
    ∃ n : Nat, (fbR f S e).2 = e + n ∧ U S * (1000000000 - f) ≤ U (fbR f S e).1 * 2 ^ n * 1000000000
  | 0, S, e, _, hS, hm, h1, h2 => ⟨0, by show e = e + ((0 : Nat) : Int); omega, by show U S * (1000000000 - ((0 : Nat) : Int)) ≤ U S * 2 ^ 0 * 1000000000; rw [Int.pow_zero]; omega⟩
  | f + 1, S, e, hf, hS, hm, h1, h2 => by
    unfold fbR
    by_cases hd : 0 < S.dp
    · rw [if_pos hd]
      obtain ⟨s1, s2, s3, s4⟩ := stepR hS
      have hp := powOf_range S.dp.toNat
      have hv := (right_val hp.1 (by omega) hS (by omega)).2
      obtain ⟨n, hn, hu⟩ := fbR_val f (rsS (powOf S.dp.toNat) S) (e + powOf S.dp.toNat) (by omega) s1 (by omega) (by omega) (by omega)
      refine ⟨powOf S.dp.toNat + n, by rw [hn]; omega, ?_⟩
      have h3 := lose_both (Int.le_of_lt (U_pos hS)) (show (0 : Int) ≤ f by omega) (by omega) hv (w := U (fbR f (rsS (powOf S.dp.toNat) S) (e + powOf S.dp.toNat)).1 * 2 ^ n * 2 ^ powOf S.dp.toNat) (by
        have := Int.mul_le_mul_of_nonneg_right hu (Int.le_of_lt (two_pos' (powOf S.dp.toNat)))
        rw [Int.mul_right_comm _ (2 ^ powOf S.dp.toNat) (1000000000 - (f : Int)), Int.mul_right_comm _ _ (1000000000 : Int)]
        exact this)
      rw [Int.pow_add, Int.mul_comm (2 ^ powOf S.dp.toNat), ← Int.mul_assoc]
      exact h3
    · rw [if_neg hd]
      refine ⟨0, by show e = e + ((0 : Nat) : Int); omega, ?_⟩
      show U S * (1000000000 - ((f + 1 : Nat) : Int)) ≤ U S * 2 ^ 0 * 1000000000
      rw [Int.pow_zero, Int.mul_one]
      exact Int.mul_le_mul_of_nonneg_left (by omega) (Int.le_of_lt (U_pos hS))

theorem powOf_small (d : Nat) (h1 : 1 ≤ d) (h2 : d ≤ 400) : (2 : Int) ^ powOf d ≤ 10 ^ d := by
  have : ∀ d, d < 9 → 1 ≤ d → (2 : Int) ^ powOf d ≤ 10 ^ d := by decide +kernel
  by_cases h : d < 9
  · exact this d h h1
  · rw [powOf_high (by omega)]
    have e : (10 : Int) ^ d = 10 ^ 9 * 10 ^ (d - 9) := by rw [← pow_add10]; exact congrArg _ (by omega)
    have p := ten_pos (d - 9)
    have h9 : (2 : Int) ^ 27 ≤ 10 ^ 9 := by decide +kernel
    rw [e]
    have h10 : (0 : Int) ≤ 10 ^ 9 := by decide +kernel
    have : (10 : Int) ^ 9 * 1 ≤ 10 ^ 9 * 10 ^ (d - 9) := Int.mul_le_mul_of_nonneg_left (by omega) h10
    omega

/-- a step to the left keeps the value below one. -/
theorem stepL_one {S : Dst} (hS : Good S) (h2 : -330 ≤ S.dp) (hd : S.dp < 0 ∨ (S.dp = 0 ∧ S.D 0 < 53)) : U (lsS (powOf (-S.dp).toNat) S) < 10 ^ 3000 := by
  have hp := powOf_range (-S.dp).toNat
  have hv := (left_val hp.1 (by omega) hS (by omega)).1
  have p2 := two_pos' (powOf (-S.dp).toNat)
  rcases hd with hd | ⟨h0, h5⟩
  · have hU := (U_bounds hS (by omega)).2
    have hs := powOf_small (-S.dp).toNat (by omega) (by omega)
    have a1 : U S * 2 ^ powOf (-S.dp).toNat < 10 ^ (S.dp + 3000).toNat * 2 ^ powOf (-S.dp).toNat := Int.mul_lt_mul_of_pos_right hU p2
    have a2 : (10 : Int) ^ (S.dp + 3000).toNat * 2 ^ powOf (-S.dp).toNat ≤ 10 ^ (S.dp + 3000).toNat * 10 ^ (-S.dp).toNat := Int.mul_le_mul_of_nonneg_left hs (Int.le_of_lt (ten_pos _))
    rw [← pow_add10, show (S.dp + 3000).toNat + (-S.dp).toNat = 3000 by omega] at a2
    generalize (10 : Int) ^ 3000 = T at *
    omega
  · have e0 : (-S.dp).toNat = 0 := by omega
    rw [e0] at hv ⊢
    have e1 : powOf 0 = 1 := rfl
    rw [e1] at hv ⊢
    have hg := (good_V hS).2.2
    have hn1 := hS.n1
    have hn8 := hS.n8
    have p := ten_pos (S.nd - 1)
    have a1 : (S.D 0 - 47) * 10 ^ (S.nd - 1) ≤ 5 * 10 ^ (S.nd - 1) := Int.mul_le_mul_of_nonneg_right (by omega) (Int.le_of_lt p)
    have a2 : U S < 5 * 10 ^ (S.nd - 1) * 10 ^ ex S := by
      unfold U
      exact Int.mul_lt_mul_of_pos_right (by omega) (ten_pos _)
    rw [Int.mul_assoc, ← pow_add10, show S.nd - 1 + ex S = 2999 by unfold ex; omega] at a2
    have e2 : (10 : Int) ^ 3000 = 10 ^ 2999 * 10 := Int.pow_succ 10 2999
    rw [e2]
    generalize (10 : Int) ^ 2999 = T at *
    have e3 : (2 : Int) ^ 1 = 2 := rfl
    rw [e3] at hv
    omega

theorem dp_of_one {S : Dst} (hS : Good S) (h2 : -330 ≤ S.dp) (h : U S < 10 ^ 3000) : S.dp ≤ 0 := by
  have h1 := (U_bounds hS (by omega)).1
  by_cases hd : S.dp ≤ 0
  · exact hd
  · exfalso
    have hle : (10 : Int) ^ 3000 ≤ 10 ^ (S.dp + 2999).toNat := ten_mono _ _ (by omega)
    exact absurd (Int.lt_of_lt_of_le (Int.lt_of_le_of_lt h1 h) hle) (Int.lt_irrefl _)

theorem fbL_val : ∀ (f : Nat) (S : Dst) (e : Int), f ≤ 3400 → Good S → -10 * S.dp + (57 - S.D 0) ≤ f → S.dp ≤ 0 → -330 ≤ S.dp → U S < 10 ^ 3000 →
    ∃ n : Nat, (fbL f S e).2 = e - n ∧ U S * 2 ^ n * (1000000000 - f) ≤ U (fbL f S e).1 * 1000000000 ∧ U (fbL f S e).1 < 10 ^ 3000 ∧ (fbL f S e).1.dp = 0 ∧ 53 ≤ (fbL f S e).1.D 0 ∧ Good (fbL f S e).1
  | 0, S, e, _, hS, hm, h1, h2, h3 => by
    have := lead_le hS
    exact ⟨0, by show e = e - ((0 : Nat) : Int); omega, by show U S * 2 ^ 0 * (1000000000 - ((0 : Nat) : Int)) ≤ U S * 1000000000; rw [Int.pow_zero]; omega, h3, by show S.dp = 0; omega, by show 53 ≤ S.D 0; omega, hS⟩
  | f + 1, S, e, hf, hS, hm, h1, h2, h3 => by
    unfold fbL
    by_cases hd : S.dp < 0 ∨ (S.dp = 0 ∧ S.D 0 < 53)
    · rw [if_pos hd]
      obtain ⟨s1, s2, s3, s4⟩ := stepL hS
      have hp := powOf_range (-S.dp).toNat
      have hv := (left_val hp.1 (by omega) hS (by omega)).2
      have h4 := stepL_one hS h2 hd
      have h5 := dp_of_one s1 (by omega) h4
      obtain ⟨n, hn, hu, r1, r2, r3, r4⟩ := fbL_val f (lsS (powOf (-S.dp).toNat) S) (e - powOf (-S.dp).toNat) (by omega) s1 (by omega) h5 (by omega) h4
      refine ⟨powOf (-S.dp).toNat + n, by rw [hn]; omega, ?_, r1, r2, r3, r4⟩
      have p2 := two_pos' n
      have hv2 := Int.mul_le_mul_of_nonneg_right hv (Int.le_of_lt p2)
      rw [Int.mul_right_comm _ (999999999 : Int), Int.mul_right_comm _ (1000000000 : Int)] at hv2
      have h6 := lose_both (Int.le_of_lt (Int.mul_pos (Int.mul_pos (U_pos hS) (two_pos' (powOf (-S.dp).toNat))) p2)) (show (0 : Int) ≤ f by omega) (by omega) hv2 hu
      rw [Int.pow_add, ← Int.mul_assoc]
      exact h6
    · rw [if_neg hd]
      refine ⟨0, by show e = e - ((0 : Nat) : Int); omega, ?_, h3, by show S.dp = 0; omega, by show 53 ≤ S.D 0; omega, hS⟩
      show U S * 2 ^ 0 * (1000000000 - ((f + 1 : Nat) : Int)) ≤ U S * 1000000000
      rw [Int.pow_zero, Int.mul_one]
      exact Int.mul_le_mul_of_nonneg_left (by omega) (Int.le_of_lt (U_pos hS))

/-- the exponent behind both loops. -/
theorem fb_exp {S : Dst} (hS : Good S) (h1 : 20 ≤ S.dp) (h2 : S.dp ≤ 310) :
    64 ≤ (fbL 3400 (fbR 3200 S 0).1 (fbR 3200 S 0).2).2 ∧ (fbL 3400 (fbR 3200 S 0).1 (fbR 3200 S 0).2).1.dp = 0 ∧ 53 ≤ (fbL 3400 (fbR 3200 S 0).1 (fbR 3200 S 0).2).1.D 0 ∧ Good (fbL 3400 (fbR 3200 S 0).1 (fbR 3200 S 0).2).1 := by
  have hl := lead_le hS
  have hl0 := hS.lead
  obtain ⟨i1, i2, i3, i4, i5⟩ := fbR_ok 3200 S 0 hS (by omega) h2 (by omega)
  obtain ⟨x, hx, hu⟩ := fbR_val 3200 S 0 (by omega) hS (by omega) h2 (by omega)
  generalize fbR 3200 S 0 = R at *
  have hU1 : U R.1 < 10 ^ 3000 := by
    have h3 := (U_bounds i1 (by omega)).2
    have hle : (10 : Int) ^ (R.1.dp + 3000).toNat ≤ 10 ^ 3000 := ten_mono _ _ (by omega)
    exact Int.lt_of_lt_of_le h3 hle
  have hRl := i1.lead
  obtain ⟨l, hlx, hu2, r1, r2, r3, r4⟩ := fbL_val 3400 R.1 R.2 (by omega) i1 (by omega) i2 i3 hU1
  generalize fbL 3400 R.1 R.2 = L at *
  refine ⟨?_, r2, r3, r4⟩
  have hS0 : (10 : Int) ^ 3019 ≤ U S := by
    have h3 := (U_bounds hS (by omega)).1
    have hle : (10 : Int) ^ 3019 ≤ 10 ^ (S.dp + 2999).toNat := ten_mono _ _ (by omega)
    exact Int.le_trans hle h3
  have e19 : (10 : Int) ^ 3019 = 10 ^ 19 * 10 ^ 3000 := pow_add10 19 3000
  rw [e19] at hS0
  have pT := ten_pos 3000
  generalize (10 : Int) ^ 3000 = T at *
  have p2x := two_pos' x
  have p2l := two_pos' l
  -- U S a 2^l b <= U R 2^x 10^9 2^l b <= 2^x 10^9 U L 10^9 < 2^x 10^18 T
  have a1 : U S * (1000000000 - ((3200 : Nat) : Int)) * (2 ^ l * (1000000000 - ((3400 : Nat) : Int))) ≤ U R.1 * 2 ^ x * 1000000000 * (2 ^ l * (1000000000 - ((3400 : Nat) : Int))) := Int.mul_le_mul_of_nonneg_right hu (Int.mul_nonneg (Int.le_of_lt p2l) (by decide))
  have a2 : U R.1 * 2 ^ l * (1000000000 - ((3400 : Nat) : Int)) * (2 ^ x * 1000000000) ≤ U L.1 * 1000000000 * (2 ^ x * 1000000000) := Int.mul_le_mul_of_nonneg_right hu2 (Int.mul_nonneg (Int.le_of_lt p2x) (by decide))
  have a3 : U L.1 * (1000000000 * (2 ^ x * 1000000000)) < T * (1000000000 * (2 ^ x * 1000000000)) := Int.mul_lt_mul_of_pos_right r1 (Int.mul_pos (by decide) (Int.mul_pos p2x (by decide)))
  have a4 : 10 ^ 19 * T * (2 ^ l * ((1000000000 - ((3200 : Nat) : Int)) * (1000000000 - ((3400 : Nat) : Int)))) ≤ U S * (2 ^ l * ((1000000000 - ((3200 : Nat) : Int)) * (1000000000 - ((3400 : Nat) : Int)))) := Int.mul_le_mul_of_nonneg_right hS0 (Int.mul_nonneg (Int.le_of_lt p2l) (by decide))
  have a5 : T * (10 ^ 19 * ((1000000000 - ((3200 : Nat) : Int)) * (1000000000 - ((3400 : Nat) : Int))) * 2 ^ l) < T * (1000000000000000000 * 2 ^ x) := by
    generalize (2 : Int) ^ x = X at *
    generalize (2 : Int) ^ l = Y at *
    generalize U S = u at *
    generalize U R.1 = v at *
    generalize U L.1 = z at *
    have q1 : v * X * 1000000000 * (Y * (1000000000 - ((3400 : Nat) : Int))) = v * Y * (1000000000 - ((3400 : Nat) : Int)) * (X * 1000000000) := mixq1 _ _ _ _ _
    have q2 : z * 1000000000 * (X * 1000000000) = z * (1000000000 * (X * 1000000000)) := Int.mul_assoc _ _ _
    have q3 : u * (1000000000 - ((3200 : Nat) : Int)) * (Y * (1000000000 - ((3400 : Nat) : Int))) = u * (Y * ((1000000000 - ((3200 : Nat) : Int)) * (1000000000 - ((3400 : Nat) : Int)))) := mixq3 _ _ _ _
    have q4 : 10 ^ 19 * T * (Y * ((1000000000 - ((3200 : Nat) : Int)) * (1000000000 - ((3400 : Nat) : Int)))) = T * (10 ^ 19 * ((1000000000 - ((3200 : Nat) : Int)) * (1000000000 - ((3400 : Nat) : Int))) * Y) := mixq4 _ _ _ _
    have q5 : T * (1000000000 * (X * 1000000000)) = T * (1000000000000000000 * X) := congrArg _ (by omega)
    rw [q1] at a1
    rw [q2] at a2
    rw [q3] at a1
    rw [q4] at a4
    rw [q5] at a3
    omega
  have a6 : 10 ^ 19 * ((1000000000 - ((3200 : Nat) : Int)) * (1000000000 - ((3400 : Nat) : Int))) * 2 ^ l < 1000000000000000000 * 2 ^ x := Int.lt_of_mul_lt_mul_left a5 (Int.le_of_lt pT)
  have a7 : (2 : Int) ^ (63 + l) < 2 ^ x := by
    rw [Int.pow_add]
    have e63 : (2 : Int) ^ 63 = 9223372036854775808 := by decide +kernel
    have e10 : (10 : Int) ^ 19 * ((1000000000 - ((3200 : Nat) : Int)) * (1000000000 - ((3400 : Nat) : Int))) = 10 ^ 19 * ((1000000000 - 3200) * (1000000000 - 3400)) := by rfl
    have e11 : (10 : Int) ^ 19 * ((1000000000 - 3200) * (1000000000 - 3400)) = 9999934000108800000000000000000000000 := by decide +kernel
    rw [e63]
    rw [e10, e11] at a6
    omega
  have a8 : 63 + l < x := by
    have h : (2 : Nat) ^ (63 + l) < 2 ^ x := by exact_mod_cast a7
    exact (Nat.pow_lt_pow_iff_right (by decide)).1 h
  omega
end Go.Proofs.Qxb6606071aDoor.Fl
