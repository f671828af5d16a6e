import Derived.Test.Qxb6606071aDoorD6
/- the value of a decimal; what leftShift makes of it. -/
namespace Go.Proofs.Qxb6606071aDoor.Fl
open Go Go.RowKit

theorem div_ten_pow (x : Int) (a b : Nat) (h : a + 1 = b) : x / 10 / 10 ^ a = x / 10 ^ b := by
  subst h
  rw [Int.ediv_ediv_of_nonneg (by decide), Int.pow_succ, Int.mul_comm 10]
theorem div_pow_ten (x : Int) (a b : Nat) (h : a + 1 = b) : x / 10 ^ a / 10 = x / 10 ^ b := by
  subst h
  rw [Int.ediv_ediv_of_nonneg (Int.le_of_lt (ten_pos _)), Int.pow_succ]

theorem ls1_dig (k : Nat) : ∀ (r d : Nat) (n : Int) (D : Nat → Int) (tr : Bool) (i : Nat), d ≤ i → i < r + d → i < 800 → (ls1 k r (r + d) n D tr).2.2.1 i - 48 = (n + V D r * 2 ^ k) / 10 ^ (r + d - 1 - i) % 10
  | 0, d, n, D, tr, i, h1, h2, _ => by omega
  | r + 1, d, n, D, tr, i, h1, h2, h3 => by
    show (ls1 k r (r + 1 + d - 1) _ _ _).2.2.1 i - 48 = _
    rw [show r + 1 + d - 1 = r + d by omega]
    have e2 : (n + (D r - 48) * 2 ^ k) / 10 + V D r * 2 ^ k = (n + V D (r + 1) * 2 ^ k) / 10 := by
      conv => rhs; unfold V
      have : n + (V D r * 10 + (D r - 48)) * 2 ^ k = (n + (D r - 48) * 2 ^ k) + V D r * 2 ^ k * 10 := by
        rw [Int.add_mul, Int.mul_right_comm]; omega
      rw [this, Int.add_mul_ediv_right _ _ (by decide)]
    by_cases hi : i < r + d
    · rw [ls1_dig k r d _ _ _ i h1 hi h3, V_congr r (fun j hj => emitD_low D (r + d) _ j (by omega)), e2]
      rw [div_ten_pow _ _ (r + d - i) (by omega)]
    · obtain rfl : i = r + d := by omega
      rw [ls1_digits.ls1_high k r d k r d _ _ _ (r + d) (by omega), emitD_at _ _ _ h3, Nat.sub_self, Int.pow_zero, Int.ediv_one]
      have : n + V D (r + 1) * 2 ^ k = (n + (D r - 48) * 2 ^ k) + V D r * 2 ^ k * 10 := by
        conv => lhs; unfold V
        rw [Int.add_mul, Int.mul_right_comm]; omega
      rw [this]
      omega

theorem ls2_dig : ∀ (g : Nat) (n : Int) (D : Nat → Int) (tr : Bool), 10 ^ g ≤ n → n < 10 ^ (g + 1) → g < 800 → ∀ i, i < g + 1 → (ls2 (g + 1) (g + 1) n D tr).2.1 i - 48 = n / 10 ^ (g - i) % 10
  | 0, n, D, tr, h1, h2, _, i, hi => by
    have h1' : 1 ≤ n := h1
    have e : ls2 1 1 n D tr = (0, emitD D 0 (n % 10), emitT tr 0 (n % 10)) := by
      unfold ls2; rw [if_neg (by omega)]; rfl
    rw [e]
    obtain rfl : i = 0 := by omega
    show emitD D 0 (n % 10) 0 - 48 = n / 1 % 10
    rw [emitD_at _ _ _ (by decide)]
    omega
  | g + 1, n, D, tr, h1, h2, h3, i, hi => by
    have e1 : (10 : Int) ^ (g + 1) = 10 ^ g * 10 := Int.pow_succ 10 g
    have e2 : (10 : Int) ^ (g + 1 + 1) = 10 ^ (g + 1) * 10 := Int.pow_succ 10 (g + 1)
    have hp := ten_pos g
    have e : ls2 (g + 1 + 1) (g + 1 + 1) n D tr = ls2 (g + 1) (g + 1) (n / 10) (emitD D (g + 1) (n % 10)) (emitT tr (g + 1) (n % 10)) := by
      conv => lhs; unfold ls2
      rw [if_neg (by omega)]; rfl
    rw [e]
    by_cases hg : i < g + 1
    · rw [ls2_dig g (n / 10) _ _ (by omega) (by omega) (by omega) i hg, div_ten_pow _ _ (g + 1 - i) (by omega)]
    · obtain rfl : i = g + 1 := by omega
      rw [(ls2_full g (n / 10) (emitD D (g + 1) (n % 10)) (emitT tr (g + 1) (n % 10)) (by omega) (by omega) (by omega)).2.1 (g + 1) (by omega), emitD_at _ _ _ h3, Nat.sub_self, Int.pow_zero, Int.ediv_one]
      omega

theorem V_of_dig (D : Nat → Int) (X : Int) (L : Nat) (h0 : 0 ≤ X) (hX : X < 10 ^ L) : ∀ m, m ≤ L → (∀ i, i < m → D i - 48 = X / 10 ^ (L - 1 - i) % 10) → V D m = X / 10 ^ (L - m)
  | 0, _, _ => by
    rw [Nat.sub_zero, Int.ediv_eq_zero_of_lt h0 hX]; rfl
  | m + 1, hm, h => by
    have ih := V_of_dig D X L h0 hX m (by omega) (fun i hi => h i (by omega))
    have hd := h m (by omega)
    have e : V D (m + 1) = V D m * 10 + (D m - 48) := rfl
    have e2 : X / 10 ^ (L - m) = X / 10 ^ (L - (m + 1)) / 10 := by
      exact (div_pow_ten _ _ _ (by omega)).symm
    rw [e, ih, hd, e2, show L - 1 - m = L - (m + 1) by omega]
    omega

/-- the first m digits behind a shift to the left. -/
theorem ls_V {k : Nat} (h1 : 1 ≤ k) (h2 : k ≤ 60) {S : Dst} (hS : Good S) (m : Nat) (hm : m ≤ S.nd + dOf k S) (h8 : m ≤ 800) :
    V (lsS k S).D m = V S.D S.nd * 2 ^ k / 10 ^ (S.nd + dOf k S - m) := by
  have hb := left_bounds (cheat_ok k h1 h2) hS.n1 hS.dig hS.lead (dOf k S) rfl
  have hX0 : 0 ≤ V S.D S.nd * 2 ^ k := Int.mul_nonneg (V_nonneg _ (fun i hi => (hS.dig i hi).1)) (Int.le_of_lt (two_pos' k))
  have hcar := ls1_carry k S.nd (S.nd + dOf k S) 0 S.D S.tr (by omega)
  rw [Int.zero_add] at hcar
  have hd1 := fun i => ls1_dig k S.nd (dOf k S) 0 S.D S.tr i
  rw [Int.zero_add] at hd1
  refine V_of_dig _ _ _ hX0 hb.1 m hm (fun i hi => ?_)
  show (ls2 (dOf k S) (dOf k S) (ls1 k S.nd (S.nd + dOf k S) 0 S.D S.tr).2.1 (ls1 k S.nd (S.nd + dOf k S) 0 S.D S.tr).2.2.1 (ls1 k S.nd (S.nd + dOf k S) 0 S.D S.tr).2.2.2).2.1 i - 48 = _
  have hd20 := (left_ok (cheat_ok k h1 h2) h1 hS.n1 hS.n8 hS.dig hS.lead S.dp S.tr (dOf k S) rfl).2.1
  have pn := ten_pos S.nd
  generalize hd : dOf k S = d at *
  cases d with
  | zero => exact hd1 i (by omega) (by omega) (by omega)
  | succ g =>
    have hhi : (ls1 k S.nd (S.nd + (g + 1)) 0 S.D S.tr).2.1 < 10 ^ (g + 1) := by
      rw [hcar]
      refine Int.ediv_lt_of_lt_mul pn ?_
      rw [Int.mul_comm (10 ^ (g + 1)), ← pow_add10]
      exact hb.1
    have hlow : 10 ^ g ≤ (ls1 k S.nd (S.nd + (g + 1)) 0 S.D S.tr).2.1 := by
      rw [hcar]
      refine Int.le_ediv_of_mul_le pn ?_
      have e : (10 : Int) ^ (S.nd + (g + 1)) = 10 ^ g * 10 ^ S.nd * 10 := by
        rw [← pow_add10, ← Int.pow_succ]; exact congrArg _ (by omega)
      have h2 := hb.2
      rw [e] at h2
      exact Int.le_of_mul_le_mul_right h2 (by decide)
    by_cases hg : i < g + 1
    · rw [ls2_dig g _ _ _ hlow hhi (by omega) i hg, hcar, Int.ediv_ediv_of_nonneg (Int.le_of_lt pn), ← pow_add10]
      rw [show S.nd + (g - i) = S.nd + (g + 1) - 1 - i by omega]
    · rw [(ls2_full g _ _ _ hlow hhi (by omega)).2.1 i (by omega)]
      exact hd1 i (by omega) (by omega) (by omega)

theorem trim_V (D : Nat → Int) : ∀ n, V D (trimN D n) * 10 ^ (n - trimN D n) = V D n
  | 0 => by simp [trimN]
  | n + 1 => by
    by_cases h : D n = 48
    · have e : trimN D (n + 1) = trimN D n := by conv => lhs; unfold trimN
                                                 rw [if_pos h]
      have ih := trim_V D n
      have hl := trimN_le D n
      have e2 : V D (n + 1) = V D n * 10 + (D n - 48) := rfl
      rw [e, e2, ← ih, show n + 1 - trimN D n = n - trimN D n + 1 by omega, Int.pow_succ, h, ← Int.mul_assoc]
      omega
    · have e : trimN D (n + 1) = n + 1 := by unfold trimN; rw [if_neg h]
      rw [e]; simp
theorem trim_zero (D : Nat → Int) : ∀ n i, trimN D n ≤ i → i < n → D i = 48
  | 0, i, _, h => by omega
  | n + 1, i, h1, h2 => by
    by_cases h : D n = 48
    · have e : trimN D (n + 1) = trimN D n := by conv => lhs; unfold trimN
                                                 rw [if_pos h]
      by_cases hi : i = n
      · subst hi; exact h
      · exact trim_zero D n i (by omega) (by omega)
    · have e : trimN D (n + 1) = n + 1 := by unfold trimN; rw [if_neg h]
      omega

/-- a decimal's value, three thousand places up. -/
def ex (S : Dst) : Nat := (S.dp - S.nd + 3000).toNat
def U (S : Dst) : Int := V S.D S.nd * 10 ^ ex S

theorem good_V {S : Dst} (hS : Good S) : (S.D 0 - 48) * 10 ^ (S.nd - 1) ≤ V S.D S.nd ∧ V S.D S.nd < 10 ^ S.nd ∧ V S.D S.nd < (S.D 0 - 47) * 10 ^ (S.nd - 1) := by
  have h1 := hS.n1
  obtain ⟨n, hn⟩ : ∃ n, S.nd = n + 1 := ⟨S.nd - 1, by omega⟩
  have hd := hS.dig
  rw [hn] at hd ⊢
  have hup := (V_up (D := S.D) 1 n (fun j hj => hd j (by omega))).2
  have e1 : V S.D 1 = S.D 0 - 48 := by show 0 * 10 + (S.D 0 - 48) = _; omega
  rw [e1, show 1 + n = n + 1 by omega, show S.D 0 - 48 + 1 = S.D 0 - 47 by omega] at hup
  exact ⟨V_ge n (fun i hi => (hd i hi).1), V_lt (n + 1) hd, by rw [Nat.add_sub_cancel]; omega⟩

/-- the value lies below ten to the point. -/
theorem U_bounds {S : Dst} (hS : Good S) (hdp : -1000 ≤ S.dp) : 10 ^ (S.dp + 2999).toNat ≤ U S ∧ U S < 10 ^ (S.dp + 3000).toNat := by
  obtain ⟨h1, h2, _⟩ := good_V hS
  have hn1 := hS.n1
  have hn8 := hS.n8
  have hl := hS.lead
  have pe := ten_pos (ex S)
  have pn := ten_pos (S.nd - 1)
  unfold U
  constructor
  · have e : (S.dp + 2999).toNat = (S.nd - 1) + ex S := by unfold ex; omega
    rw [e, pow_add10]
    refine Int.mul_le_mul_of_nonneg_right ?_ (Int.le_of_lt pe)
    have : 1 * 10 ^ (S.nd - 1) ≤ (S.D 0 - 48) * 10 ^ (S.nd - 1) := Int.mul_le_mul_of_nonneg_right (by omega) (Int.le_of_lt pn)
    omega
  · have e : (S.dp + 3000).toNat = S.nd + ex S := by unfold ex; omega
    rw [e, pow_add10]
    exact Int.mul_lt_mul_of_pos_right h2 pe

/-- a shift to the left: the value times two to the k, less what falls behind digit 800. -/
theorem left_val {k : Nat} (h1 : 1 ≤ k) (h2 : k ≤ 60) {S : Dst} (hS : Good S) (hdp : -1000 ≤ S.dp) :
    U (lsS k S) ≤ U S * 2 ^ k ∧ U S * 2 ^ k * 999999999 ≤ U (lsS k S) * 1000000000 := by
  have hb := left_bounds (cheat_ok k h1 h2) hS.n1 hS.dig hS.lead (dOf k S) rfl
  obtain ⟨g1, g2, g3, _⟩ := left_good h1 h2 hS
  have hn1 := hS.n1
  have hn8 := hS.n8
  have hdpe : (lsS k S).dp = S.dp + dOf k S := (left_ok (cheat_ok k h1 h2) h1 hS.n1 hS.n8 hS.dig hS.lead S.dp S.tr (dOf k S) rfl).2.2.2.2.2.2.1
  have hnd : (lsS k S).nd = trimN (lsS k S).D (min (S.nd + dOf k S) 800) := rfl
  have hM := ls_V h1 h2 hS (min (S.nd + dOf k S) 800) (Nat.min_le_left _ _) (Nat.min_le_right _ _)
  have htr := trim_V (lsS k S).D (min (S.nd + dOf k S) 800)
  have htl := trimN_le (lsS k S).D (min (S.nd + dOf k S) 800)
  rw [← hnd] at htr htl
  obtain ⟨M, hMe⟩ : ∃ M, M = min (S.nd + dOf k S) 800 := ⟨_, rfl⟩
  obtain ⟨X, hX⟩ : ∃ X, X = V S.D S.nd * 2 ^ k := ⟨_, rfl⟩
  obtain ⟨q, hq⟩ : ∃ q, q = S.nd + dOf k S - M := ⟨_, rfl⟩
  rw [← hMe] at hM htr htl
  rw [← hX] at hM hb
  rw [← hq] at hM
  have hX0 : 0 ≤ X := by rw [hX]; exact Int.mul_nonneg (V_nonneg _ (fun i hi => (hS.dig i hi).1)) (Int.le_of_lt (two_pos' k))
  have eU : U S * 2 ^ k = X * 10 ^ ex S := by unfold U; rw [hX, Int.mul_right_comm]
  have eU2 : U (lsS k S) = X / 10 ^ q * 10 ^ q * 10 ^ ex S := by
    unfold U
    have e : ex (lsS k S) = (M - (lsS k S).nd) + q + ex S := by unfold ex; omega
    rw [e, pow_add10, pow_add10, ← Int.mul_assoc, ← Int.mul_assoc, htr, hM]
  have pe := ten_pos (ex S)
  have pq := ten_pos q
  have hdm : X / 10 ^ q * 10 ^ q + X % 10 ^ q = X := by have := Int.mul_ediv_add_emod X (10 ^ q); rw [Int.mul_comm (10 ^ q)] at this; exact this
  have hm0 := Int.emod_nonneg X (Int.ne_of_gt pq)
  have hm1 := Int.emod_lt_of_pos X pq
  rw [eU, eU2]
  constructor
  · exact Int.mul_le_mul_of_nonneg_right (by omega) (Int.le_of_lt pe)
  · have key : X * 999999999 ≤ X / 10 ^ q * 10 ^ q * 1000000000 := by
      by_cases hq0 : q = 0
      · rw [hq0, Int.pow_zero, Int.ediv_one]; omega
      · have hM8 : M = 800 := by omega
        have hbig : 10 ^ 799 ≤ X / 10 ^ q := by
          refine Int.le_ediv_of_mul_le pq ?_
          rw [← pow_add10]
          have e : S.nd + dOf k S = 799 + q + 1 := by omega
          have h2 := hb.2
          rw [e, Int.pow_succ] at h2
          omega
        have h9 : (1000000000 : Int) ≤ 10 ^ 799 := by decide +kernel
        have hh : 1000000000 * 10 ^ q ≤ X / 10 ^ q * 10 ^ q := Int.mul_le_mul_of_nonneg_right (by omega) (Int.le_of_lt pq)
        omega
    rw [Int.mul_right_comm X, Int.mul_right_comm _ (10 ^ ex S)]
    exact Int.mul_le_mul_of_nonneg_right key (Int.le_of_lt pe)
end Go.Proofs.Qxb6606071aDoor.Fl
