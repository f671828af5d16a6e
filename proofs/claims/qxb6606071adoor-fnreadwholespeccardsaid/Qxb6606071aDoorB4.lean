import Derived.Test.Qxb6606071aDoorB3
import Derived.Test.Qxb6606071aDoorF2
/- floatBits at a whole number of twenty digits and more: its bits. -/
namespace Go.Proofs.Qxb6606071aDoor.Fl
open Go Go.RowKit

/-- the word of 2^63. -/
abbrev bigW : Nat := 4890909195324358656

theorem and2047 (x : Nat) (h : x < 2048) : bits .and .i64 (x : Int) 2047 = x := by
  have all : ∀ t : Fin 2048, bits BinOp.and .i64 ((t.val : Nat) : Int) 2047 = (t.val : Nat) := by decide +kernel
  exact all ⟨x, h⟩

theorem packBits_at (m e : Int) (hm : 0 ≤ m ∧ m < 18446744073709551616) (he : 63 ≤ e ∧ e ≤ 1023) : (bigW : Int) ≤ packBits m e ∧ packBits m e ≤ infW := by
  obtain ⟨n, rfl⟩ := Int.eq_ofNat_of_zero_le hm.1
  obtain ⟨k, hk⟩ : ∃ k : Nat, e + 1023 = k := ⟨(e + 1023).toNat, by omega⟩
  unfold packBits
  rw [hk, and2047 k (by omega)]
  have e1 : bits .and .u64 (n : Int) 4503599627370495 = ((n &&& 4503599627370495 : Nat) : Int) := bits_and n 4503599627370495 (by omega) (by omega)
  have e2 : IntKind.u64.wrap (k : Int) = k := wrapU_nat k (by omega)
  have e3 : IntKind.u64.wrap ((k : Int) * 4503599627370496) = ((k * 4503599627370496 : Nat) : Int) := by rw [wrap_u64_mod]; omega
  have hle : (n &&& 4503599627370495) ≤ 4503599627370495 := Nat.and_le_right
  rw [e1, e2, e3, bits_or _ _ (by omega) (by omega)]
  have hs : ((n &&& 4503599627370495) ||| k * 4503599627370496) >>> 52 = k := by
    rw [Nat.shiftRight_or_distrib]
    have a1 : (n &&& 4503599627370495) >>> 52 = 0 := by rw [Nat.shiftRight_eq_div_pow]; omega
    have a3 : (k * 4503599627370496) >>> 52 = k := by rw [Nat.shiftRight_eq_div_pow]; omega
    rw [a1, a3, Nat.zero_or]
  rw [Nat.shiftRight_eq_div_pow] at hs
  unfold bigW infW
  omega

theorem ovBits_eq : ovBits = 9218868437227405312 := by unfold ovBits packBits; decide

/-- the digits before the point, gathered. -/
theorem gather_V {S : Dst} (M : Nat) (hz : ∀ i, S.nd ≤ i → i < M → S.D i = 48) (hd : ∀ i, i < M → 48 ≤ S.D i ∧ S.D i ≤ 57) (hb : V S.D M < 18446744073709551616) : ∀ n, n ≤ M → gather S n = V S.D n ∧ 0 ≤ V S.D n ∧ V S.D n ≤ V S.D M
  | 0, _ => by
    refine ⟨rfl, Int.le_refl _, V_nonneg M (fun i hi => (hd i hi).1)⟩
  | n + 1, hn => by
    obtain ⟨i1, i2, i3⟩ := gather_V M hz hd hb n (by omega)
    have hx := hd n (by omega)
    have e : V S.D (n + 1) = V S.D n * 10 + (S.D n - 48) := rfl
    have hup : V S.D (n + 1) ≤ V S.D M := by
      obtain ⟨r, hr⟩ : ∃ r, M = n + 1 + r := ⟨M - (n + 1), by omega⟩
      have h1 := (V_up (D := S.D) (n + 1) r (fun j hj => hd j (by omega))).1
      have p := ten_pos r
      have h0 : 0 ≤ V S.D (n + 1) := V_nonneg (n + 1) (fun i hi => (hd i (by omega)).1)
      have : V S.D (n + 1) * 1 ≤ V S.D (n + 1) * 10 ^ r := Int.mul_le_mul_of_nonneg_left (by omega) h0
      rw [hr]
      omega
    refine ⟨?_, by omega, hup⟩
    unfold gather
    rw [i1]
    by_cases hnd : n < S.nd
    · rw [if_pos hnd, wrap_u64 (V S.D n * 10) (by omega) (by omega), wrap_u64 _ (by omega) (by omega), e]
    · have := hz n (by omega) (by omega)
      rw [if_neg hnd, wrap_u64 (V S.D n * 10) (by omega) (by omega), e]
      omega

/-- the mantissa of a number in [1/2, 1). -/
theorem mant_of {L : Dst} (hL : Good L) (h0 : L.dp = 0) (h5 : 53 ≤ L.D 0) : 4503599627370496 ≤ rnd (lsS 53 L) ∧ rnd (lsS 53 L) ≤ 9007199254740992 := by
  obtain ⟨g1, g2, g3, g4, g5, g6, hdp⟩ := left_ok (cheat_ok 53 (by decide) (by decide)) (by decide) hL.n1 hL.n8 hL.dig hL.lead L.dp L.tr (dOf 53 L) rfl
  have hG := (left_good (k := 53) (by decide) (by decide) hL).1
  have hn1 := hL.n1
  have hn8 := hL.n8
  have hdp' : (lsS 53 L).dp = dOf 53 L := by
    have : (lsS 53 L).dp = L.dp + dOf 53 L := hdp.1
    omega
  obtain ⟨d, hd⟩ : ∃ d, dOf 53 L = d := ⟨_, rfl⟩
  rw [hd] at hdp' g2
  have hV := fun m h1 h2 => ls_V (k := 53) (by decide) (by decide) hL m h1 h2
  rw [hd] at hV
  have hVd := hV d (by omega) (by omega)
  rw [show L.nd + d - d = L.nd by omega] at hVd
  obtain ⟨v1, v2, _⟩ := good_V hL
  have p := ten_pos (L.nd - 1)
  have pn := ten_pos L.nd
  have en : (10 : Int) ^ L.nd = 10 ^ (L.nd - 1) * 10 := by rw [← Int.pow_succ]; exact congrArg _ (by omega)
  have a1 : 5 * 10 ^ (L.nd - 1) ≤ (L.D 0 - 48) * 10 ^ (L.nd - 1) := Int.mul_le_mul_of_nonneg_right (by omega) (Int.le_of_lt p)
  have e53 : (2 : Int) ^ 53 = 9007199254740992 := by decide +kernel
  have lo : 4503599627370496 ≤ V (lsS 53 L).D d := by
    rw [hVd]
    refine Int.le_ediv_of_mul_le pn ?_
    rw [en, e53]
    omega
  have hi : V (lsS 53 L).D d < 9007199254740992 := by
    rw [hVd]
    refine Int.ediv_lt_of_lt_mul pn ?_
    rw [e53]
    omega
  have hM : d ≤ min (L.nd + d) 800 := by omega
  have hnd : (lsS 53 L).nd = trimN (lsS 53 L).D (min (L.nd + d) 800) := by rw [← hd]; rfl
  have hz : ∀ i, (lsS 53 L).nd ≤ i → i < d → (lsS 53 L).D i = 48 := fun i q1 q2 => trim_zero _ _ i (by rw [← hnd]; exact q1) (by omega)
  have hdig : ∀ i, i < d → 48 ≤ (lsS 53 L).D i ∧ (lsS 53 L).D i ≤ 57 := fun i q => by
    by_cases hi : i < (lsS 53 L).nd
    · exact hG.dig i hi
    · rw [hz i (by omega) q]; decide
  have hg := (gather_V (S := lsS 53 L) d hz hdig (by omega) d (Nat.le_refl _)).1
  have hr : rnd (lsS 53 L) = rounded (lsS 53 L) d := by
    unfold rnd
    rw [if_neg (by omega), if_neg (by omega), hdp', Int.toNat_natCast]
  rw [hr]
  unfold rounded
  split
  · rw [hg, wrap_u64 _ (by omega) (by omega)]; omega
  · rw [hg]; omega

theorem and_bit52 (n : Int) (h1 : 4503599627370496 ≤ n) (h2 : n < 9007199254740992) : bits BinOp.and .u64 n 4503599627370496 ≠ 0 := by
  obtain ⟨k, rfl⟩ : ∃ k : Nat, n = k := ⟨n.toNat, by omega⟩
  have e : bits .and .u64 (k : Int) 4503599627370496 = ((k &&& 4503599627370496 : Nat) : Int) := bits_and k 4503599627370496 (by omega) (by omega)
  rw [e]
  intro h
  have h0 : k &&& 4503599627370496 = 0 := by omega
  have ht : (k &&& 2 ^ 52).testBit 52 = false := by
    rw [show (2 : Nat) ^ 52 = 4503599627370496 by decide, h0]; simp
  rw [Nat.testBit_and, Nat.testBit_two_pow_self, Bool.and_true, Nat.testBit_eq_decide_div_mod_eq] at ht
  have : k / 2 ^ 52 = 1 := by omega
  rw [this] at ht
  exact absurd ht (by decide)

/-- floatBits at a whole number of twenty digits and more. -/
theorem fbBits_big {S : Dst} (hS : Good S) (h1 : 20 ≤ S.dp) : (bigW : Int) ≤ (fbBits S).1 ∧ (fbBits S).1 ≤ infW := by
  have hn := hS.n1
  unfold fbBits
  rw [if_neg (by omega)]
  by_cases h2 : 310 < S.dp
  · rw [if_pos h2]
    show (bigW : Int) ≤ ovBits ∧ ovBits ≤ infW
    rw [ovBits_eq]
    unfold bigW infW
    omega
  · rw [if_neg h2, if_neg (by omega)]
    obtain ⟨y1, y2, y3, y4⟩ := fb_exp hS h1 (by omega)
    unfold fbAns
    generalize fbL 3400 (fbR 3200 S 0).1 (fbR 3200 S 0).2 = L at *
    have hN : fbNorm L.1 L.2 = (L.1, L.2 - 1) := by unfold fbNorm; rw [if_neg (by omega)]
    rw [hN]
    dsimp only
    obtain ⟨m1, m2⟩ := mant_of y4 y2 y3
    unfold fbEnd
    split
    · show (bigW : Int) ≤ ovBits ∧ ovBits ≤ infW
      rw [ovBits_eq]
      unfold bigW infW
      omega
    · split
      · split
        · show (bigW : Int) ≤ ovBits ∧ ovBits ≤ infW
          rw [ovBits_eq]
          unfold bigW infW
          omega
        · exact packBits_at _ _ (by omega) (by omega)
      · rename_i hne
        rw [if_neg (and_bit52 _ m1 (by omega))]
        exact packBits_at _ _ (by omega) (by omega)
end Go.Proofs.Qxb6606071aDoor.Fl
