import Derived.Test.Qxb6606071aDoorB4
import Derived.Test.Qxb6606071aDoorE9
/- parseFloat64 at a whole number at or beyond 2^63. -/
namespace Go.Proofs.Qxb6606071aDoor.Fl
open Go Go.RowKit

theorem pfX_at (d : Int) (hd : 1 ≤ d ∧ d < 18446744073709551616) : IntKind.u64.wrap (d * 2 ^ (64 - bitLen d.toNat)) = d * 2 ^ (64 - bitLen d.toNat) ∧ 9223372036854775808 ≤ d * 2 ^ (64 - bitLen d.toNat) ∧ d * 2 ^ (64 - bitLen d.toNat) < 18446744073709551616 := by
  obtain ⟨n, rfl⟩ := Int.eq_ofNat_of_zero_le (show 0 ≤ d by omega)
  rw [Int.toNat_natCast]
  have h0 : n ≠ 0 := by omega
  have hb := bitLen_le64 n (by omega)
  obtain ⟨h1, h2⟩ := bitLen_spec n
  have h2 := h2 h0
  have hb1 : 1 ≤ bitLen n := by unfold bitLen; rw [if_neg h0]; omega
  generalize bitLen n = b at *
  have u1 : n * 2 ^ (64 - b) < 18446744073709551616 := by
    have : n * 2 ^ (64 - b) < 2 ^ b * 2 ^ (64 - b) := Nat.mul_lt_mul_of_pos_right h1 (Nat.two_pow_pos _)
    rw [← Nat.pow_add, show b + (64 - b) = 64 by omega] at this
    exact this
  have u2 : 9223372036854775808 ≤ n * 2 ^ (64 - b) := by
    have : 2 ^ (b - 1) * 2 ^ (64 - b) ≤ n * 2 ^ (64 - b) := Nat.mul_le_mul_right _ h2
    rw [← Nat.pow_add, show b - 1 + (64 - b) = 63 by omega] at this
    exact this
  have e : (n : Int) * 2 ^ (64 - b) = ((n * 2 ^ (64 - b) : Nat) : Int) := by simp
  rw [e, wrapU_nat _ u1]
  omega

theorem orI_ge (x y : Int) (hx : 0 ≤ x ∧ x < 18446744073709551616) (hy : y = 0 ∨ y = 1) : x ≤ bits .or .u64 x y := by
  obtain ⟨n, rfl⟩ := Int.eq_ofNat_of_zero_le hx.1
  obtain ⟨k, hk, rfl⟩ : ∃ k : Nat, k ≤ 1 ∧ y = k := by rcases hy with rfl | rfl; exact ⟨0, by omega, rfl⟩; exact ⟨1, by omega, rfl⟩
  rw [bits_or n k (by omega) (by omega)]
  have : n ≤ n ||| k := Nat.left_le_or
  omega

/-- uscale's answer from below. -/
theorem uscaleF_ge (x hi lo : Int) (hx : 9223372036854775808 ≤ x ∧ x < 18446744073709551616) (hh : 9223372036854775808 ≤ hi ∧ hi ≤ 18446744073709000000) :
    (mh x hi - 1) / 256 ≤ uscaleF x hi lo 8 := by
  have hm1 : mh x hi ≤ hi := by
    unfold mh
    have h2 : x * hi ≤ 18446744073709551616 * hi := Int.mul_le_mul_of_nonneg_right (by omega) (by omega)
    omega
  have hm0 : 1 ≤ mh x hi := by
    unfold mh
    have h2 : 9223372036854775808 * hi ≤ x * hi := Int.mul_le_mul_of_nonneg_right (by omega) (by omega)
    omega
  have e8 : (2 : Int) ^ 8 = 256 := by decide
  unfold uscaleF
  rw [e8]
  split
  · have hb := boolI_01 (decide (ml x hi < mh x lo))
    have hw : IntKind.u64.wrap (mh x hi - boolI (decide (ml x hi < mh x lo))) = mh x hi - boolI (decide (ml x hi < mh x lo)) := by
      rw [wrap_u64_mod]; omega
    rw [hw]
    have := orI_ge ((mh x hi - boolI (decide (ml x hi < mh x lo))) / 256) (boolI (decide (1 < IntKind.u64.wrap (ml x hi - mh x lo)))) (by omega) (boolI_01 _)
    omega
  · have := orI_ge (mh x hi / 256) 1 (by omega) (.inr rfl)
    omega

/-- the rounded significand lies at or beyond two to the 52nd. -/
theorem pfV_big (u : Int) (hu : 18014398509481983 ≤ u ∧ u ≤ 72057594037925800) : 4503599627370496 ≤ roundF (pfV u) := by
  have hr : ∀ v : Int, 18014398509481983 ≤ v → v ≤ 72057594037925800 → 4503599627370496 ≤ roundF v := by
    intro v h0 h1
    unfold roundF
    have hb := andI_one (v / 4) (by omega)
    have e1 : IntKind.u64.wrap (v + 1) = v + 1 := by rw [wrap_u64_mod]; omega
    rw [e1]
    have e2 : IntKind.u64.wrap (v + 1 + bits .and .u64 (v / 4) 1) = v + 1 + bits .and .u64 (v / 4) 1 := by rw [wrap_u64_mod]; omega
    rw [e2]
    omega
  unfold pfV pfG
  rw [unmin53]
  by_cases h : (36028797018963966 : Int) ≤ u
  · rw [decide_eq_true h]
    have e : (boolI true).toNat = 1 := rfl
    rw [e]
    have h1 := orI_small (u / 2 ^ 1) (bits .and .u64 u 1) (by omega) (andI_one u (by omega))
    have h2 := orI_ge (u / 2 ^ 1) (bits .and .u64 u 1) (by omega) (andI_one u (by omega))
    exact hr _ (by omega) (by omega)
  · rw [decide_eq_false h]
    have e : (boolI false).toNat = 0 := rfl
    rw [e, show u / 2 ^ 0 = u by simp, orI_self u (by omega)]
    exact hr u (by omega) (by omega)

/-- a significand and its sign. -/
theorem or_sign (neg : Bool) (r : Nat) (hr : r < 9223372036854775808) : bits BinOp.or .u64 (sgW neg) (r : Int) = ((wd neg r : Nat) : Int) := by
  unfold sgW wd
  cases neg
  · rw [if_neg (by decide), if_neg (by decide)]
    have e : bits .or .u64 ((0 : Nat) : Int) (r : Int) = ((0 ||| r : Nat) : Int) := bits_or 0 r (by omega) (by omega)
    rw [Nat.zero_or] at e
    exact e
  · rw [if_pos rfl, if_pos rfl]
    have e : bits .or .u64 ((9223372036854775808 : Nat) : Int) (r : Int) = ((9223372036854775808 ||| r : Nat) : Int) := bits_or 9223372036854775808 r (by omega) (by omega)
    have e2 := Nat.two_pow_add_eq_or_of_lt (show r < 2 ^ 63 by omega) 1
    rw [Nat.mul_one, show (2 : Nat) ^ 63 = 9223372036854775808 by decide] at e2
    rw [← e2] at e
    exact e
theorem wd_top (neg : Bool) (r : Nat) (h1 : 4503599627370496 ≤ r) (h2 : r < 9007199254740992) : wd neg r >>> 52 = (if neg then 2049 else 1) ∧ wd neg r < 18446744073709551616 := by
  unfold wd
  rw [Nat.shiftRight_eq_div_pow]
  cases neg
  · rw [if_neg (by decide), if_neg (by decide)]; omega
  · rw [if_pos rfl, if_pos rfl]; omega

theorem and_top1 (m : Nat) (h : m / 2 ^ 63 = 1) : m &&& 2 ^ 63 = 2 ^ 63 := by
  apply Nat.eq_of_testBit_eq
  intro i
  rw [Nat.testBit_and, Nat.testBit_two_pow]
  by_cases hi : 63 = i
  · subst hi; rw [Nat.testBit_eq_decide_div_mod_eq, h]; simp
  · simp [hi]
theorem and_top0 (m : Nat) (h : m / 2 ^ 63 = 0) : m &&& 2 ^ 63 = 0 := by
  apply Nat.eq_of_testBit_eq
  intro i
  rw [Nat.testBit_and, Nat.testBit_two_pow]
  by_cases hi : 63 = i
  · subst hi; rw [Nat.testBit_eq_decide_div_mod_eq, h]; simp
  · simp [hi]

theorem packF_big (neg : Bool) (r : Nat) (h1 : 4503599627370496 ≤ r) (h2 : r < 9007199254740992) (E : Int) (hE : 11 ≤ E) : ∃ x, (packF ((wd neg r : Nat) : Int) E).1 = wd neg x ∧ bigW ≤ x ∧ x ≤ infW := by
  obtain ⟨ht, hlt⟩ := wd_top neg r h1 h2
  generalize hm : wd neg r = m at *
  have hbit : bits .and .u64 (m : Int) 4503599627370496 ≠ 0 := by
    have e : bits .and .u64 (m : Int) 4503599627370496 = ((m &&& 4503599627370496 : Nat) : Int) := bits_and m 4503599627370496 (by omega) (by omega)
    rw [e]
    intro h
    have h0 : m &&& 4503599627370496 = 0 := by omega
    have h3 : (m &&& 4503599627370496) >>> 52 = 0 := by rw [h0]; rfl
    rw [Nat.shiftRight_and_distrib, ht] at h3
    cases neg
    · exact absurd h3 (by decide)
    · exact absurd h3 (by decide)
  unfold packF
  rw [if_neg hbit]
  by_cases h972 : 972 ≤ E
  · rw [if_pos h972]
    have e1 : bits .and .u64 (m : Int) 9223372036854775808 = ((m &&& 9223372036854775808 : Nat) : Int) := bits_and m 9223372036854775808 (by omega) (by omega)
    have e2 : (m &&& 9223372036854775808) = if neg then 9223372036854775808 else 0 := by
      rw [show (9223372036854775808 : Nat) = 2 ^ 63 by decide]
      rw [Nat.shiftRight_eq_div_pow] at ht
      cases neg
      · rw [if_neg (by decide)] at ht ⊢
        exact and_top0 m (by omega)
      · rw [if_pos rfl] at ht ⊢
        exact and_top1 m (by omega)
    refine ⟨infW, ?_, by unfold bigW infW; omega, Nat.le_refl _⟩
    show (bits BinOp.or .u64 (bits BinOp.and .u64 (m : Int) 9223372036854775808) 9218868437227405312).toNat = wd neg infW
    rw [e1, e2]
    cases neg <;> decide
  · rw [if_neg h972]
    obtain ⟨k, hk⟩ : ∃ k : Nat, 1075 + E = k := ⟨(1075 + E).toNat, by omega⟩
    rw [hk]
    have e1 : bits .andNot .u64 (m : Int) 4503599627370496 = ((m &&& (18446744073709551616 - 1 - 4503599627370496) : Nat) : Int) := bits_andNot m 4503599627370496 (by omega) (by omega)
    have e2 : IntKind.u64.wrap (k : Int) = k := wrapU_nat k (by omega)
    have e3 : IntKind.u64.wrap ((k : Int) * 4503599627370496) = ((k * 4503599627370496 : Nat) : Int) := by rw [wrap_u64_mod]; omega
    have hle : (m &&& (18446744073709551616 - 1 - 4503599627370496)) ≤ m := Nat.and_le_left
    rw [e1, e2, e3, bits_or _ _ (by omega) (by omega)]
    show ∃ x, (((m &&& (18446744073709551616 - 1 - 4503599627370496) ||| k * 4503599627370496 : Nat) : Int)).toNat = wd neg x ∧ _
    rw [Int.toNat_natCast]
    have hs : (m &&& (18446744073709551616 - 1 - 4503599627370496) ||| k * 4503599627370496) >>> 52 = (if neg then 2048 else 0) + k := by
      rw [Nat.shiftRight_or_distrib, Nat.shiftRight_and_distrib, ht]
      have a3 : (k * 4503599627370496) >>> 52 = k := by rw [Nat.shiftRight_eq_div_pow]; omega
      rw [a3]
      cases neg
      · have : (if false = true then 2049 else 1) &&& (18446744073709551616 - 1 - 4503599627370496) >>> 52 = 0 := by decide
        rw [this, Nat.zero_or, if_neg (by decide), Nat.zero_add]
      · have : (if true = true then 2049 else 1) &&& (18446744073709551616 - 1 - 4503599627370496) >>> 52 = 2048 := by decide
        rw [this, if_pos rfl]
        have e2 := Nat.two_pow_add_eq_or_of_lt (show k < 2 ^ 11 by omega) 1
        rw [Nat.mul_one, show (2 : Nat) ^ 11 = 2048 by decide] at e2
        exact e2.symm
    rw [Nat.shiftRight_eq_div_pow] at hs
    generalize (m &&& (18446744073709551616 - 1 - 4503599627370496) ||| k * 4503599627370496) = R at *
    cases neg
    · rw [if_neg (by decide)] at hs
      refine ⟨R, rfl, ?_⟩
      unfold bigW infW
      omega
    · rw [if_pos rfl] at hs
      refine ⟨R - 9223372036854775808, ?_, ?_⟩
      · unfold wd; rw [if_pos rfl]; omega
      · unfold bigW infW
        omega

theorem pt349 : ptHi 349 = 11529215046068469760 := by decide +kernel

/-- parseFloat64 at a whole number at or beyond 2^63. -/
theorem pfF_big (neg : Bool) (d p : Int) (hd : 1000000000000000000 ≤ d ∧ d < 18446744073709551616) (hp : 0 ≤ p ∧ p ≤ 310) (hbig : 9223372036854775808 ≤ d ∨ 1 ≤ p) :
    ∃ x, (pfF (sgW neg) d p).1 = wd neg x ∧ bigW ≤ x ∧ x ≤ infW := by
  have hn : (p + 348).toNat < 696 := by omega
  have ht := pt_bounds _ hn
  have hb := bitLen_le64 d.toNat (by omega)
  obtain ⟨hx1, hx2, hx3⟩ := pfX_at d (by omega)
  have hlp0 : 0 ≤ lp10 p ∧ lp10 p ≤ 1500 := by unfold lp10; omega
  have hlp1 : 1 ≤ p → 3 ≤ lp10 p := by unfold lp10; omega
  have hlp2 : 2 ≤ p → 6 ≤ lp10 p := by unfold lp10; omega
  obtain ⟨b1, b2⟩ := bitLen_spec d.toNat
  have b2 := b2 (by omega)
  generalize hbe : bitLen d.toNat = b at *
  have hb60 : 60 ≤ b := by
    by_cases h : 60 ≤ b
    · exact h
    · exfalso
      have : 2 ^ b ≤ 2 ^ 59 := Nat.pow_le_pow_right (by decide) (by omega)
      have h59 : (2 : Nat) ^ 59 = 576460752303423488 := by decide
      omega
  have hb64 : 9223372036854775808 ≤ d → b = 64 := by
    intro h
    by_cases h2 : b = 64
    · exact h2
    · exfalso
      have : 2 ^ b ≤ 2 ^ 63 := Nat.pow_le_pow_right (by decide) (by omega)
      have h63 : (2 : Nat) ^ 63 = 9223372036854775808 := by decide
      omega
  unfold pfF
  rw [hbe, if_neg (by omega)]
  unfold pfU pfEnd
  rw [hx1]
  have hge := uscaleF_ge (d * 2 ^ (64 - b)) (ptHi (p + 348).toNat) (ptLo (p + 348).toNat) ⟨hx2, hx3⟩ ht
  have hsm := (uscaleF_small (d * 2 ^ (64 - b)) (ptHi (p + 348).toNat) (ptLo (p + 348).toNat) 8 (by omega) (.inr ⟨hx2, hx3⟩) ht).2
  have hmh : 4611686018427387904 ≤ mh (d * 2 ^ (64 - b)) (ptHi (p + 348).toNat) := by
    unfold mh
    have q1 : 9223372036854775808 * ptHi (p + 348).toNat ≤ d * 2 ^ (64 - b) * ptHi (p + 348).toNat := Int.mul_le_mul_of_nonneg_right hx2 (by omega)
    omega
  -- the shift by one where the digits want it
  have hg1 : b + lp10 p ≤ 63 → 36028797018963966 ≤ uscaleF (d * 2 ^ (64 - b)) (ptHi (p + 348).toNat) (ptLo (p + 348).toNat) 8 := by
    intro h
    have hp1 : p = 1 := by
      by_cases h2 : 2 ≤ p
      · have := hlp2 h2; omega
      · rcases hbig with h3 | h3
        · have := hb64 h3; omega
        · omega
    have hb6 : b = 60 := by have := hlp1 (by omega); omega
    subst hp1 hb6
    have e349 : ((1 : Int) + 348).toNat = 349 := rfl
    rw [e349, pt349] at hge ⊢
    have e16 : (2 : Int) ^ (64 - 60) = 16 := by decide
    have q : 10000000000000000000 ≤ mh (d * 2 ^ (64 - 60)) 11529215046068469760 := by
      unfold mh
      rw [e16]
      omega
    omega
  generalize uscaleF (d * 2 ^ (64 - b)) (ptHi (p + 348).toNat) (ptLo (p + 348).toNat) 8 = u at *
  have hr1 := pfV_big u (by omega)
  have hr2 := (pfV_round u (by omega)).2
  have hgg : pfG u = 0 ∨ pfG u = 1 := by unfold pfG; exact boolI_01 _
  have hg2 : 36028797018963966 ≤ u → pfG u = 1 := by
    intro h
    unfold pfG
    rw [unmin53, decide_eq_true h]
    rfl
  generalize roundF (pfV u) = r at *
  obtain ⟨n, rfl⟩ := Int.eq_ofNat_of_zero_le (show 0 ≤ r by omega)
  rw [or_sign neg n (by omega)]
  refine packF_big neg n (by omega) (by omega) _ ?_
  by_cases hc : b + lp10 p ≤ 63
  · have := hg2 (hg1 hc)
    have : 63 ≤ b + lp10 p := by
      by_cases hp0 : 1 ≤ p
      · have := hlp1 hp0; omega
      · rcases hbig with h3 | h3
        · have := hb64 h3; omega
        · omega
    omega
  · omega
end Go.Proofs.Qxb6606071aDoor.Fl
