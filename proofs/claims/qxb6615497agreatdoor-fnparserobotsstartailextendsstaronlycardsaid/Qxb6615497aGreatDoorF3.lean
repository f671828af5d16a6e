import Derived.Test.Qxb6615497aGreatDoorF2
import Derived.Test.Qxb6615497aGreatDoorE9
/- ParseFloat's answer is no NaN and bears no sign. -/
namespace Go.Proofs.Qxb6615497aGreatDoor
open Go Go.RowKit

theorem pfX_range (d : Int) (hd : 0 ≤ d ∧ d < 18446744073709551616) : IntKind.u64.wrap (d * 2 ^ (64 - bitLen d.toNat)) = 0 ∨ (9223372036854775808 ≤ IntKind.u64.wrap (d * 2 ^ (64 - bitLen d.toNat)) ∧ IntKind.u64.wrap (d * 2 ^ (64 - bitLen d.toNat)) < 18446744073709551616) := by
  obtain ⟨n, rfl⟩ := Int.eq_ofNat_of_zero_le hd.1
  rw [Int.toNat_natCast]
  by_cases h0 : n = 0
  · subst h0
    left
    rw [show ((0 : Nat) : Int) * 2 ^ (64 - bitLen 0) = 0 by simp]
    decide
  · right
    have hb := bitLen_le64 n (by omega)
    obtain ⟨h1, h2⟩ := bitLen_spec n
    have h2 := h2 h0
    have hb1 : 1 ≤ bitLen n := by unfold bitLen; rw [if_neg h0]; omega
    generalize bitLen n = b at *
    have u1 : n * 2 ^ (64 - b) < 18446744073709551616 := by
      have : n * 2 ^ (64 - b) < 2 ^ b * 2 ^ (64 - b) := Nat.mul_lt_mul_of_pos_right h1 (Nat.two_pow_pos _)
      rw [← Nat.pow_add, show b + (64 - b) = 64 by omega] at this
      exact this
    have u2 : 9223372036854775808 ≤ n * 2 ^ (64 - b) := by
      have : 2 ^ (b - 1) * 2 ^ (64 - b) ≤ n * 2 ^ (64 - b) := Nat.mul_le_mul_right _ h2
      rw [← Nat.pow_add, show b - 1 + (64 - b) = 63 by omega] at this
      exact this
    have e : (n : Int) * 2 ^ (64 - b) = ((n * 2 ^ (64 - b) : Nat) : Int) := by simp
    rw [e, wrapU_nat _ u1]
    omega

theorem pfEnd_le (u e : Int) (hu : 0 ≤ u ∧ u ≤ 72057594037925800) (he : e ≤ 1074) : (pfEnd u e).1 ≤ infW := by
  have hr := pfV_round u hu
  have hg : 0 ≤ pfG u := by unfold pfG; rcases boolI_01 (decide (unminF 9007199254740992 ≤ u)) with h | h <;> omega
  unfold pfEnd
  generalize roundF (pfV u) = r at *
  obtain ⟨n, rfl⟩ := Int.eq_ofNat_of_zero_le hr.1
  have e0 : bits .or .u64 0 (n : Int) = ((0 ||| n : Nat) : Int) := bits_or 0 n (by omega) (by omega)
  rw [e0, Nat.zero_or]
  exact packF_le _ _ hr (by omega)

theorem pfF_le (d p : Int) (hd : 0 ≤ d ∧ d < 18446744073709551616) (hp : -345 ≤ p ∧ p ≤ 310) : (pfF d p).1 ≤ infW := by
  have hn : (p + 348).toNat < 696 := by omega
  have hx := pfX_range d hd
  have ht := pt_bounds _ hn
  have hb := bitLen_le64 d.toNat (by omega)
  have hlp : -1500 ≤ lp10 p ∧ lp10 p ≤ 1500 := by unfold lp10; omega
  unfold pfF
  split
  · rename_i h1
    split
    · exact Nat.zero_le _
    · rename_i h2
      exact pfEnd_le _ _ (uscaleF_small _ _ _ _ (by omega) hx ht) (by omega)
  · exact pfEnd_le _ _ (uscaleF_small _ _ _ _ (by omega) hx ht) (by omega)

theorem and2047 (x : Nat) (h : x < 2048) : bits .and .i64 (x : Int) 2047 = x := by
  have all : ∀ t : Fin 2048, bits BinOp.and .i64 ((t.val : Nat) : Int) 2047 = (t.val : Nat) := by decide +kernel
  exact all ⟨x, h⟩

theorem packBits_le (m e : Int) (hm : 0 ≤ m ∧ m < 18446744073709551616) (he : -1023 ≤ e ∧ e ≤ 1023) : (packBits m e).toNat ≤ infW := by
  obtain ⟨n, rfl⟩ := Int.eq_ofNat_of_zero_le hm.1
  obtain ⟨k, hk⟩ : ∃ k : Nat, e + 1023 = k := ⟨(e + 1023).toNat, by omega⟩
  unfold packBits
  rw [hk, and2047 k (by omega)]
  have e1 : bits .and .u64 (n : Int) 4503599627370495 = ((n &&& 4503599627370495 : Nat) : Int) := bits_and n 4503599627370495 (by omega) (by omega)
  have e2 : IntKind.u64.wrap (k : Int) = k := wrapU_nat k (by omega)
  have e3 : IntKind.u64.wrap ((k : Int) * 4503599627370496) = ((k * 4503599627370496 : Nat) : Int) := by rw [wrap_u64_mod]; omega
  have hle : (n &&& 4503599627370495) ≤ 4503599627370495 := Nat.and_le_right
  rw [e1, e2, e3, bits_or _ _ (by omega) (by omega), Int.toNat_natCast]
  have hs : ((n &&& 4503599627370495) ||| k * 4503599627370496) >>> 52 = k := by
    rw [Nat.shiftRight_or_distrib]
    have a1 : (n &&& 4503599627370495) >>> 52 = 0 := by rw [Nat.shiftRight_eq_div_pow]; omega
    have a3 : (k * 4503599627370496) >>> 52 = k := by rw [Nat.shiftRight_eq_div_pow]; omega
    rw [a1, a3, Nat.zero_or]
  rw [Nat.shiftRight_eq_div_pow] at hs
  unfold infW
  omega

theorem ovBits_eq : ovBits = 9218868437227405312 := by unfold ovBits packBits; decide

theorem fbNorm_lo (L : Dst) (y : Int) : -1022 ≤ (fbNorm L y).2 := by
  unfold fbNorm
  split
  · exact Int.le_refl _
  · show -1022 ≤ y - 1; omega

theorem fbNorm_good {L : Dst} (h : Good L) (y : Int) : Good (fbNorm L y).1 := by
  unfold fbNorm
  split
  · exact (rsMany_good _ _ L (by omega) (by omega) h).1
  · exact h

theorem fbEnd_le (M : Dst) (z : Int) (hM : Good M) (hz : -1022 ≤ z) : (fbEnd M z).1.toNat ≤ infW := by
  have hg := (left_good (k := 53) (by decide) (by decide) hM).1
  have hr := rnd_range _ hg
  unfold fbEnd
  split
  · show ovBits.toNat ≤ infW; rw [ovBits_eq]; decide
  · split
    · split
      · show ovBits.toNat ≤ infW; rw [ovBits_eq]; decide
      · exact packBits_le _ _ (by omega) (by omega)
    · split
      · exact packBits_le _ _ hr (by omega)
      · exact packBits_le _ _ hr (by omega)

theorem fbBits_le (S : Dst) (hS : S.nd ≠ 0 → Good S) : (fbBits S).1.toNat ≤ infW := by
  unfold fbBits
  split
  · exact packBits_le _ _ (by omega) (by omega)
  · rename_i h0
    have hG := hS h0
    split
    · show ovBits.toNat ≤ infW; rw [ovBits_eq]; decide
    · rename_i h1
      split
      · exact packBits_le _ _ (by omega) (by omega)
      · rename_i h2
        unfold fbAns
        have l1 := lead_le hG
        obtain ⟨r1, r2, r3, r4, r5⟩ := fbR_ok 3200 S 0 hG (by omega) (by omega) (by omega)
        have l2 := r1.lead
        obtain ⟨q1, q2, q3, q4, q5⟩ := fbL_ok 3400 (fbR 3200 S 0).1 (fbR 3200 S 0).2 r1 (by omega) (by omega) (by omega)
        exact fbEnd_le _ _ (fbNorm_good q1 _) (fbNorm_lo _ _)

theorem atofF_le (s : ByteArray) (hs : NumText s) : (atofF s).1 ≤ infW := by
  have hok := rfAll_ok hs
  unfold atofF
  split
  · exact Nat.zero_le _
  · split
    · exact Nat.le_refl _
    · rename_i h1
      split
      · exact Nat.zero_le _
      · rename_i h2
        have hp : (pfF (rfAll s).m (rfExp (rfAll s))).1 ≤ infW := pfF_le _ _ hok.m0 (by omega)
        split
        · split
          · exact exF_le _ _ hok.m0.1
          · exact hp
        · split
          · exact hp
          · exact fbBits_le _ (stOf_good hs)
end Go.Proofs.Qxb6615497aGreatDoor
