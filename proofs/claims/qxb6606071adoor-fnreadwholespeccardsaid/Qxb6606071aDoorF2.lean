import Derived.Test.Qxb6606071aDoorE3
import Derived.Test.Qxb6606071aDoorF1
/- parseFloat64's answer is no NaN and bears no sign. -/
namespace Go.Proofs.Qxb6606071aDoor.Fl
open Go Go.RowKit

theorem wrapU_nat (n : Nat) (h : n < 18446744073709551616) : IntKind.u64.wrap (n : Int) = n := by
  rw [wrap_u64_mod]; omega
theorem ofInt64 (x : Nat) (h : x < 18446744073709551616) : (BitVec.ofInt IntKind.u64.bits (x : Int)).toNat = x := by
  show (BitVec.ofInt 64 (x : Int)).toNat = x
  simp
  omega
theorem bits_or (x y : Nat) (hx : x < 18446744073709551616) (hy : y < 18446744073709551616) : bits .or .u64 (x : Int) (y : Int) = ((x ||| y : Nat) : Int) := by
  unfold bits
  dsimp only
  rw [BitVec.toNat_or, ofInt64 x hx, ofInt64 y hy]
  exact wrapU_nat _ (Nat.or_lt_two_pow (n := 64) hx hy)
theorem bits_and (x y : Nat) (hx : x < 18446744073709551616) (hy : y < 18446744073709551616) : bits .and .u64 (x : Int) (y : Int) = ((x &&& y : Nat) : Int) := by
  unfold bits
  dsimp only
  rw [BitVec.toNat_and, ofInt64 x hx, ofInt64 y hy]
  exact wrapU_nat _ (Nat.lt_of_le_of_lt Nat.and_le_left hx)
theorem bits_andNot (x y : Nat) (hx : x < 18446744073709551616) (hy : y < 18446744073709551616) : bits .andNot .u64 (x : Int) (y : Int) = ((x &&& (18446744073709551616 - 1 - y) : Nat) : Int) := by
  unfold bits
  dsimp only
  rw [BitVec.toNat_and, BitVec.toNat_not, ofInt64 x hx, ofInt64 y hy]
  exact wrapU_nat _ (Nat.lt_of_le_of_lt Nat.and_le_left hx)

theorem or_small (x y : Nat) (hy : y ≤ 1) : (x ||| y) ≤ x + 1 := by
  have h1 : (x ||| y) / 2 = x / 2 ||| y / 2 := Nat.or_div_two
  rw [show y / 2 = 0 by omega, Nat.or_zero] at h1
  omega
theorem or_and_one (x : Nat) : (x ||| (x &&& 1)) = x := by
  apply Nat.eq_of_testBit_eq
  intro i
  rw [Nat.testBit_or, Nat.testBit_and]
  cases x.testBit i <;> simp
theorem and_one_le (x : Nat) : (x &&& 1) ≤ 1 := Nat.and_le_right

theorem pt_bounds (n : Nat) (hn : n < 696) : 9223372036854775808 ≤ ptHi n ∧ ptHi n ≤ 18446744073709000000 := by
  have hall : ((List.range 696).all fun n => decide (9223372036854775808 ≤ ptHi n) && decide (ptHi n ≤ 18446744073709000000)) = true := by decide +kernel
  have := List.all_eq_true.1 hall n (List.mem_range.2 hn)
  simp only [Bool.and_eq_true, decide_eq_true_eq] at this
  exact this

theorem boolI_01 (b : Bool) : boolI b = 0 ∨ boolI b = 1 := by unfold boolI; split <;> simp

theorem orI_small (x y : Int) (hx : 0 ≤ x ∧ x < 18446744073709551616) (hy : y = 0 ∨ y = 1) : 0 ≤ bits .or .u64 x y ∧ bits .or .u64 x y ≤ x + 1 := by
  obtain ⟨n, rfl⟩ := Int.eq_ofNat_of_zero_le hx.1
  obtain ⟨k, hk, rfl⟩ : ∃ k : Nat, k ≤ 1 ∧ y = k := by rcases hy with rfl | rfl; exact ⟨0, by omega, rfl⟩; exact ⟨1, by omega, rfl⟩
  rw [bits_or n k (by omega) (by omega)]
  have := or_small n k hk
  omega
theorem andI_one (x : Int) (hx : 0 ≤ x ∧ x < 18446744073709551616) : bits .and .u64 x 1 = 0 ∨ bits .and .u64 x 1 = 1 := by
  obtain ⟨n, rfl⟩ := Int.eq_ofNat_of_zero_le hx.1
  have e := bits_and n 1 (by omega) (by omega)
  have := and_one_le n
  have e' : bits .and .u64 (n : Int) 1 = ((n &&& 1 : Nat) : Int) := e
  rw [e']
  omega
theorem orI_self (x : Int) (hx : 0 ≤ x ∧ x < 18446744073709551616) : bits .or .u64 x (bits .and .u64 x 1) = x := by
  obtain ⟨n, rfl⟩ := Int.eq_ofNat_of_zero_le hx.1
  have e : bits .and .u64 (n : Int) 1 = ((n &&& 1 : Nat) : Int) := bits_and n 1 (by omega) (by omega)
  have := and_one_le n
  rw [e, bits_or n _ (by omega) (by omega), or_and_one]

/-- uscale's answer is small. -/
theorem uscaleF_small (x hi lo : Int) (s : Nat) (hs : 8 ≤ s) (hx : x = 0 ∨ (9223372036854775808 ≤ x ∧ x < 18446744073709551616)) (hh : 9223372036854775808 ≤ hi ∧ hi ≤ 18446744073709000000) :
    0 ≤ uscaleF x hi lo s ∧ uscaleF x hi lo s ≤ 72057594037925800 := by
  refine ⟨(uscaleF_range x hi lo s).1, ?_⟩
  have hp : (256 : Int) ≤ 2 ^ s := by
    have h8 : (2 : Int) ^ 8 ≤ 2 ^ s := by
      have := Nat.pow_le_pow_right (n := 2) (by decide) hs
      exact_mod_cast this
    have e : (2 : Int) ^ 8 = 256 := by decide
    omega
  have hdiv : ∀ z : Int, 0 ≤ z → z ≤ 18446744073709000000 → 0 ≤ z / 2 ^ s ∧ z / 2 ^ s ≤ 72057594037925782 := by
    intro z h0 h1
    refine ⟨Int.ediv_nonneg h0 (by omega), ?_⟩
    have h2 : z / 2 ^ s * 2 ^ s ≤ z := Int.ediv_mul_le z (by omega)
    have h3 : 0 ≤ z / 2 ^ s := Int.ediv_nonneg h0 (by omega)
    have h4 : z / 2 ^ s * 256 ≤ z / 2 ^ s * 2 ^ s := Int.mul_le_mul_of_nonneg_left hp h3
    omega
  rcases hx with rfl | hx
  · have e : mh 0 hi = 0 := by unfold mh; rw [Int.zero_mul]; rfl
    have e2 : mh 0 lo = 0 := by unfold mh; rw [Int.zero_mul]; rfl
    have e3 : ml 0 hi = 0 := by unfold ml; rw [Int.zero_mul]; decide
    unfold uscaleF
    rw [e, e2, e3]
    have h0 := hdiv 0 (by omega) (by omega)
    split
    · have e4 : (0 : Int) - boolI (decide ((0 : Int) < 0)) = 0 := by decide
      have e5 : IntKind.u64.wrap 0 = 0 := by decide
      rw [e4, e5]
      have := (orI_small (0 / 2 ^ s) (boolI (decide (1 < IntKind.u64.wrap (0 - 0)))) (by omega) (boolI_01 _)).2
      omega
    · have := (orI_small (0 / 2 ^ s) 1 (by omega) (.inr rfl)).2
      omega
  · have hm1 : mh x hi ≤ hi := by
      unfold mh
      have h2 : x * hi ≤ 18446744073709551616 * hi := Int.mul_le_mul_of_nonneg_right (by omega) (by omega)
      omega
    have hm0 : 1 ≤ mh x hi := by
      unfold mh
      have h2 : 9223372036854775808 * hi ≤ x * hi := Int.mul_le_mul_of_nonneg_right (by omega) (by omega)
      omega
    unfold uscaleF
    split
    · have hb := boolI_01 (decide (ml x hi < mh x lo))
      have hw : IntKind.u64.wrap (mh x hi - boolI (decide (ml x hi < mh x lo))) = mh x hi - boolI (decide (ml x hi < mh x lo)) := by
        rw [wrap_u64_mod]; omega
      rw [hw]
      have h1 := hdiv (mh x hi - boolI (decide (ml x hi < mh x lo))) (by omega) (by omega)
      have := (orI_small _ (boolI (decide (1 < IntKind.u64.wrap (ml x hi - mh x lo)))) (show 0 ≤ (mh x hi - boolI (decide (ml x hi < mh x lo))) / 2 ^ s ∧ _ < 18446744073709551616 by omega) (boolI_01 _)).2
      omega
    · have h1 := hdiv (mh x hi) (by omega) (by omega)
      have := (orI_small (mh x hi / 2 ^ s) 1 (by omega) (.inr rfl)).2
      omega

theorem unmin53 : unminF 9007199254740992 = 36028797018963966 := by decide

/-- the rounded significand lies below two to the 53rd. -/
theorem pfV_round (u : Int) (hu : 0 ≤ u ∧ u ≤ 72057594037925800) : 0 ≤ roundF (pfV u) ∧ roundF (pfV u) < 9007199254740992 := by
  have hr : ∀ v : Int, 0 ≤ v → v ≤ 36028797018963965 → 0 ≤ roundF v ∧ roundF v < 9007199254740992 := by
    intro v h0 h1
    unfold roundF
    have hb := andI_one (v / 4) (by omega)
    have e1 : IntKind.u64.wrap (v + 1) = v + 1 := by rw [wrap_u64_mod]; omega
    rw [e1]
    have e2 : IntKind.u64.wrap (v + 1 + bits .and .u64 (v / 4) 1) = v + 1 + bits .and .u64 (v / 4) 1 := by rw [wrap_u64_mod]; omega
    rw [e2]
    omega
  unfold pfV pfG
  rw [unmin53]
  by_cases h : (36028797018963966 : Int) ≤ u
  · rw [decide_eq_true h]
    have e : (boolI true).toNat = 1 := rfl
    rw [e]
    have h1 := orI_small (u / 2 ^ 1) (bits .and .u64 u 1) (by omega) (andI_one u (by omega))
    exact hr _ h1.1 (by omega)
  · rw [decide_eq_false h]
    have e : (boolI false).toNat = 0 := rfl
    rw [e, show u / 2 ^ 0 = u by simp, orI_self u (by omega)]
    exact hr u hu.1 (by omega)

/-- the packed word. -/
theorem packF_le (m e : Int) (hm : 0 ≤ m ∧ m < 9007199254740992) (he : -1074 ≤ e) : (packF m e).1 ≤ infW := by
  obtain ⟨n, rfl⟩ := Int.eq_ofNat_of_zero_le hm.1
  have hn : n < 9007199254740992 := by omega
  unfold packF
  by_cases h0 : bits .and .u64 (n : Int) 4503599627370496 = 0
  · rw [if_pos h0]
    show (n : Int).toNat ≤ infW
    rw [Int.toNat_natCast]
    unfold infW; omega
  · rw [if_neg h0]
    by_cases h1 : 972 ≤ e
    · rw [if_pos h1]
      have e1 : bits .and .u64 (n : Int) 9223372036854775808 = ((n &&& 9223372036854775808 : Nat) : Int) := bits_and n 9223372036854775808 (by omega) (by omega)
      have e2 : (n &&& 9223372036854775808) = 0 := by
        apply Nat.eq_of_testBit_eq
        intro i
        rw [Nat.testBit_and, Nat.zero_testBit]
        by_cases hi : i = 63
        · subst hi
          rw [Nat.testBit_lt_two_pow (Nat.lt_of_lt_of_le hn (by decide)), Bool.false_and]
        · have e63 : (9223372036854775808 : Nat) = 2 ^ 63 := by decide
          rw [e63, Nat.testBit_two_pow_of_ne (fun h => hi h.symm), Bool.and_false]
      rw [e1, e2]
      decide
    · rw [if_neg h1]
      obtain ⟨k, hk⟩ : ∃ k : Nat, 1075 + e = k := ⟨(1075 + e).toNat, by omega⟩
      have hk2 : k ≤ 2046 := by omega
      rw [hk]
      have e1 : bits .andNot .u64 (n : Int) 4503599627370496 = ((n &&& 18442240474082181119 : Nat) : Int) := bits_andNot n 4503599627370496 (by omega) (by omega)
      have e2 : IntKind.u64.wrap (k : Int) = k := wrapU_nat k (by omega)
      have e3 : IntKind.u64.wrap ((k : Int) * 4503599627370496) = ((k * 4503599627370496 : Nat) : Int) := by rw [wrap_u64_mod]; omega
      have hle : (n &&& 18442240474082181119) ≤ n := Nat.and_le_left
      rw [e1, e2, e3, bits_or _ _ (by omega) (by omega)]
      show (((n &&& 18442240474082181119) ||| k * 4503599627370496 : Nat) : Int).toNat ≤ infW
      rw [Int.toNat_natCast]
      have hs : ((n &&& 18442240474082181119) ||| k * 4503599627370496) >>> 52 = k := by
        rw [Nat.shiftRight_or_distrib, Nat.shiftRight_and_distrib]
        have a1 : n >>> 52 ≤ 1 := by rw [Nat.shiftRight_eq_div_pow]; omega
        have a2 : (18442240474082181119 : Nat) >>> 52 = 4094 := by decide
        have a3 : (k * 4503599627370496) >>> 52 = k := by rw [Nat.shiftRight_eq_div_pow]; omega
        rw [a2, a3]
        have a4 : (n >>> 52 &&& 4094) = 0 := by
          have : n >>> 52 = 0 ∨ n >>> 52 = 1 := by omega
          rcases this with h | h <;> rw [h] <;> decide
        rw [a4, Nat.zero_or]
      rw [Nat.shiftRight_eq_div_pow] at hs
      unfold infW
      omega
end Go.Proofs.Qxb6606071aDoor.Fl
