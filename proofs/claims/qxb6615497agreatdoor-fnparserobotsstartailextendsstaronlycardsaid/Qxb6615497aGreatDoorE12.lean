import Derived.Test.Qxb6615497aGreatDoorF2
import Derived.Test.Qxb6615497aGreatDoorF4
/- math.Round; (time.Duration).Seconds at a day. -/
namespace Go.Proofs.Qxb6615497aGreatDoor
open Go Go.RowKit

theorem mbits_run (x : Nat) (w : World) : (callFunc 72 #[.float .f64 x]).run Tryz.prog w = .ok (.value (.int .u64 x)) w := by
  rw [run_callFunc_extern Tryz.func72 (by kernel_rfl) (by kernel_rfl) (by kernel_rfl) (e := Extern.MathFloatBits.float64bits) (by kernel_rfl)]
  rfl
theorem mfrom_run (x : Int) (w : World) : (callFunc 73 #[.int .u64 x]).run Tryz.prog w = .ok (.value (.float .f64 x.toNat)) w := by
  rw [run_callFunc_extern Tryz.func73 (by kernel_rfl) (by kernel_rfl) (by kernel_rfl) (e := Extern.MathFloatBits.float64frombits) (by kernel_rfl)]
  rfl

theorem andU2047 (x : Nat) (h : x < 2048) : bits .and .u64 (x : Int) 2047 = x := by
  have all : ∀ t : Fin 2048, bits BinOp.and .u64 ((t.val : Nat) : Int) 2047 = (t.val : Nat) := by decide +kernel
  exact all ⟨x, h⟩

/-- Round's word. -/
def roundW (B : Nat) : Int :=
  if B / binW < 1023 then (if B / binW = 1022 then bits .or .u64 (bits .and .u64 (B : Int) 9223372036854775808) 4607182418800017408 else bits .and .u64 (B : Int) 9223372036854775808)
  else bits .andNot .u64 (IntKind.u64.wrap ((B : Int) + 2251799813685248 / 2 ^ (B / binW - 1023))) (4503599627370495 / 2 ^ (B / binW - 1023))

theorem high_zero (B : Nat) (h : B ≤ 1070 * binW) : bits .and .u64 (B : Int) 9223372036854775808 = 0 := by
  have e1 : bits .and .u64 (B : Int) 9223372036854775808 = ((B &&& 9223372036854775808 : Nat) : Int) := bits_and B 9223372036854775808 (by unfold binW at h; omega) (by omega)
  rw [e1]
  have e2 : (B &&& 9223372036854775808) = 0 := by
    apply Nat.eq_of_testBit_eq
    intro i
    rw [Nat.testBit_and, Nat.zero_testBit]
    by_cases hi : i = 63
    · subst hi
      rw [Nat.testBit_lt_two_pow (Nat.lt_of_le_of_lt h (by decide)), Bool.false_and]
    · have e63 : (9223372036854775808 : Nat) = 2 ^ 63 := by decide
      rw [e63, Nat.testBit_two_pow_of_ne (fun h => hi h.symm), Bool.and_false]
  rw [e2]; rfl

theorem roundW_le (B : Nat) (h : B ≤ 1070 * binW) : (roundW B).toNat ≤ 1071 * binW := by
  unfold roundW
  rw [high_zero B h]
  split
  · split
    · decide
    · decide
  · rename_i h2
    have hk : ((2 : Int) ^ (B / binW - 1023)) = ((2 ^ (B / binW - 1023) : Nat) : Int) := by simp
    have hp := Nat.two_pow_pos (B / binW - 1023)
    rw [hk]
    generalize 2 ^ (B / binW - 1023) = P at *
    have q1 : (2251799813685248 : Int) / (P : Int) = ((2251799813685248 / P : Nat) : Int) := by simp
    have q2 : (4503599627370495 : Int) / (P : Int) = ((4503599627370495 / P : Nat) : Int) := by simp
    rw [q1, q2]
    have d1 := Nat.div_le_self 2251799813685248 P
    have d2 := Nat.div_le_self 4503599627370495 P
    generalize 2251799813685248 / P = a at *
    generalize 4503599627370495 / P = c at *
    have hB : B ≤ 4818851601286430720 := h
    have hw : IntKind.u64.wrap ((B : Int) + (a : Int)) = ((B + a : Nat) : Int) := by rw [wrap_u64_mod]; omega
    rw [hw, bits_andNot (B + a) c (by omega) (by omega), Int.toNat_natCast]
    have : ((B + a) &&& (18446744073709551616 - 1 - c)) ≤ B + a := Nat.and_le_left
    have e : 1071 * binW = 4823355200913801216 := by decide
    omega

set_option maxHeartbeats 1000000 in
set_option maxRecDepth 100000 in
theorem round_calls (B : Nat) (h : B ≤ 1070 * binW) (w : World) :
    Calls Tryz.prog 43 #[.float .f64 B] w fun e w' => e = .returned (.float .f64 (roundW B).toNat) ∧ w' = w := by
  have h1 := mbits_run
  have h2 := mfrom_run
  have hq : B / binW ≤ 1070 := Nat.div_le_of_le_mul (by rw [Nat.mul_comm]; exact h)
  have hd : (B : Int) / 4503599627370496 = ((B / binW : Nat) : Int) := by simp
  have ha := andU2047 (B / binW) (by omega)
  unfold roundW
  generalize B / binW = E at *
  by_cases c1 : E < 1023
  · have z1 : (E : Int) < 1023 := by omega
    rw [if_pos c1]
    by_cases c2 : E = 1022
    · subst c2
      rw [if_pos rfl]
      go_enter Tryz.func43, Tryz.ntmps43
      go_wp2
      go_ret
      exact ⟨rfl, rfl⟩
    · have z2 : ¬ ((E : Int) = 1022) := by omega
      rw [if_neg c2]
      go_enter Tryz.func43, Tryz.ntmps43
      go_wp2
      go_ret
      exact ⟨rfl, rfl⟩
  · have z1 : ¬ ((E : Int) < 1023) := by omega
    have z2 : (E : Int) < 1075 := by omega
    rw [if_neg c1]
    obtain ⟨k, rfl⟩ : ∃ k, E = k + 1023 := ⟨E - 1023, by omega⟩
    rw [show k + 1023 - 1023 = k by omega]
    have hk : k ≤ 47 := by omega
    rw [show ((k + 1023 : Nat) : Int) = (k : Int) + 1023 by omega] at hd ha z1 z2
    clear c1
    go_enter Tryz.func43, Tryz.ntmps43
    go_wp2
    go_ret
    exact ⟨rfl, rfl⟩

set_option maxHeartbeats 1000000 in
set_option maxRecDepth 100000 in
theorem seconds_day (w : World) : Calls Tryz.prog 42 #[.int .i64 86400000000000] w fun e w' => e = .returned (.float .f64 dayW) ∧ w' = w := by
  have f1 : floatOfInt .f64 86400 = dayW := by decide +kernel
  have f0 : floatOfInt .f64 0 = 0 := by decide +kernel
  have q1 : ∀ w, (binOp .quo 73 (.float .f64 0) (.float .f64 nanoW)).run Tryz.prog w = .ok (.float .f64 0) w := fun w => run_float_arith w .quo 73 .f64 0 nanoW 0 (by decide +kernel)
  have q2 : ∀ w, (binOp .add 73 (.float .f64 dayW) (.float .f64 0)).run Tryz.prog w = .ok (.float .f64 dayW) w := fun w => run_float_arith w .add 73 .f64 dayW 0 dayW (by decide +kernel)
  go_enter Tryz.func42, Tryz.ntmps42
  go_wp2
  go_ret
  exact ⟨rfl, rfl⟩
end Go.Proofs.Qxb6615497aGreatDoor
