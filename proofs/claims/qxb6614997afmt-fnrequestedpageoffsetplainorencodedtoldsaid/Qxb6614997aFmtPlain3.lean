import Derived.Test.Qxb6614997aFmtPlain
/- Decimal numerals, plainly. -/
namespace Go.Proofs.Qxb6614997aFmt.Pl

/-- the digits of n, none for 0; f: at least as many as there are. -/
def digsF : Nat → Nat → List UInt8
  | 0, _ => []
  | f + 1, n => if n = 0 then [] else digsF f (n / 10) ++ [UInt8.ofNat (48 + n % 10)]

/-- zzItoa. -/
def itoa (n : Int) : List UInt8 := if n = 0 then [48] else if n < 0 then 45 :: digsF 20 (-n).toNat else digsF 20 n.toNat

theorem digsF_zero : ∀ f, digsF f 0 = []
  | 0 => rfl
  | f + 1 => by simp [digsF]

theorem digit_toNat (n : Nat) : (UInt8.ofNat (48 + n % 10)).toNat = 48 + n % 10 := by
  rw [UInt8.toNat_ofNat']; omega

theorem digsF_dig : ∀ f n, ∀ c ∈ digsF f n, isDig c = true
  | 0, _, c, h => by simp [digsF] at h
  | f + 1, n, c, h => by
    unfold digsF at h
    by_cases e : n = 0
    · simp [e] at h
    · simp only [e, if_false, List.mem_append, List.mem_singleton] at h
      rcases h with h | rfl
      · exact digsF_dig f _ c h
      · unfold isDig; rw [digit_toNat]; exact decide_eq_true (by omega)

theorem digsF_fold : ∀ f n, n < 10 ^ f → n ≤ mx → (digsF f n).foldl step 0 = n
  | 0, n, h, _ => by simp at h; simp [digsF, h]
  | f + 1, n, h, hm => by
    unfold digsF
    by_cases e : n = 0
    · simp [e]
    · simp only [e, if_false, List.foldl_append, List.foldl_cons, List.foldl_nil]
      have h1 : n / 10 < 10 ^ f := by
        rw [Nat.pow_succ] at h
        exact Nat.div_lt_of_lt_mul (by omega)
      rw [digsF_fold f (n / 10) h1 (by omega)]
      unfold step
      rw [digit_toNat]
      unfold mx at hm ⊢
      rw [if_neg (by omega)]
      omega

theorem digsF_ne : ∀ f n, n ≠ 0 → n < 10 ^ f → digsF f n ≠ []
  | 0, n, h, h1 => by simp at h1; exact absurd h1 h
  | f + 1, n, h, _ => by unfold digsF; simp [h]

theorem digsF_length : ∀ f n, (digsF f n).length ≤ f
  | 0, _ => by simp [digsF]
  | f + 1, n => by
    unfold digsF
    have := digsF_length f (n / 10)
    by_cases e : n = 0
    · simp [e]
    · simp [e]; omega

theorem count_itoa (n : Int) (h0 : 0 ≤ n) (h1 : n ≤ 9223372036854775807) : count (itoa n) = some n.toNat := by
  unfold itoa
  by_cases e : n = 0
  · subst e; decide +kernel
  · rw [if_neg e, if_neg (by omega)]
    have hlt : n.toNat < 10 ^ 20 := by
      have : (10 : Nat) ^ 20 = 100000000000000000000 := by decide
      omega
    unfold count
    rw [if_neg (digsF_ne 20 n.toNat (by omega) hlt), if_pos]
    · rw [digsF_fold 20 n.toNat hlt (by unfold mx; omega)]
    · rw [List.all_eq_true]; exact digsF_dig 20 n.toNat

theorem count_itoa_neg (n : Int) (h : n < 0) : count (itoa n) = none := by
  unfold itoa
  rw [if_neg (by omega), if_pos h]
  unfold count
  rw [if_neg (by simp), if_neg]
  simp [isDig]

theorem itoa_bytes (n : Int) : ∀ c ∈ itoa n, isDig c = true ∨ c = 45 := by
  unfold itoa
  intro c hc
  by_cases e : n = 0
  · rw [if_pos e] at hc
    simp at hc; subst hc; left; decide
  · rw [if_neg e] at hc
    by_cases h : n < 0
    · rw [if_pos h] at hc
      simp at hc
      rcases hc with rfl | hc
      · right; rfl
      · left; exact digsF_dig _ _ c hc
    · rw [if_neg h] at hc
      left; exact digsF_dig _ _ c hc

theorem itoa_length (n : Int) : (itoa n).length ≤ 21 := by
  unfold itoa
  have h1 := digsF_length 20 (-n).toNat
  have h2 := digsF_length 20 n.toNat
  split
  · simp
  · split
    · simp; omega
    · omega
end Go.Proofs.Qxb6614997aFmt.Pl
