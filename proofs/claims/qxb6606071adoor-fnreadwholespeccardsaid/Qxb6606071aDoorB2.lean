import Derived.Test.Qxb6606071aDoorB1
/- what rightShift makes of a decimal's value. -/
namespace Go.Proofs.Qxb6606071aDoor.Fl
open Go Go.RowKit

theorem drop_sum (A q m P X : Int) : (A * 10 + (q + 48 - 48)) * 10 * P + (m * 10 + X) = (A * 10 * P + (P * q + m)) * 10 + X := by
  have h : (A * 10 + (q + 48 - 48)) * 10 * P = A * 10 * P * 10 + P * q * 10 := by
    rw [show q + 48 - 48 = q by omega, Int.add_mul, Int.add_mul, Int.mul_right_comm (A * 10) 10 P, Int.mul_right_comm q 10 P, Int.mul_comm q P]
  rw [h]
  omega
theorem mix4 (A C P T : Int) : A * C * P * T = A * P * (C * T) := by rw [Int.mul_right_comm A C P, Int.mul_assoc (A * P) C T]
theorem mix5 (A B P F : Int) : A * P * (B * 10 * F) = A * B * 10 * P * F := by
  rw [← Int.mul_assoc (A * P), ← Int.mul_assoc (A * P), Int.mul_right_comm A P B, Int.mul_right_comm (A * B) P 10]
theorem mix6 (X P K : Int) : X * 10 * P * K = X * K * (10 * P) := by
  rw [← Int.mul_assoc (X * K) 10 P, Int.mul_right_comm X K 10, Int.mul_right_comm (X * 10) K P]

/-- the digits, zeros behind them. -/
def padD (D : Nat → Int) (nd : Nat) : Nat → Int := fun i => if i < nd then D i else 48

theorem padD_V (D : Nat → Int) (nd : Nat) : ∀ r, V (padD D nd) (nd + r) = V D nd * 10 ^ r
  | 0 => by
    rw [Nat.add_zero, V_congr (E := D) nd (fun i hi => by unfold padD; rw [if_pos hi])]; simp
  | r + 1 => by
    have ih := padD_V D nd r
    have e : V (padD D nd) (nd + (r + 1)) = V (padD D nd) (nd + r) * 10 + (padD D nd (nd + r) - 48) := rfl
    rw [e, ih, Int.pow_succ, show padD D nd (nd + r) = 48 by unfold padD; rw [if_neg (by omega)]]
    rw [← Int.mul_assoc]
    omega

theorem rs1_V (k : Nat) (D : Nat → Int) (nd : Nat) : ∀ (f r : Nat) (n : Int), n = V (padD D nd) r → (rs1 k D nd f r n).2 = V (padD D nd) (rs1 k D nd f r n).1
  | 0, r, n, h => h
  | f + 1, r, n, h => by
    have e : V (padD D nd) (r + 1) = V (padD D nd) r * 10 + (padD D nd r - 48) := rfl
    unfold rs1
    split
    · exact h
    · split
      · rename_i hr
        refine rs1_V k D nd f (r + 1) _ ?_
        rw [e, h]; unfold padD; rw [if_pos hr]
      · rename_i hr
        refine rs1_V k D nd f (r + 1) _ ?_
        rw [e, h, show padD D nd r = 48 by unfold padD; rw [if_neg hr]]
        omega

theorem V_put (D : Nat → Int) (w : Nat) (x : Int) : V (put D w x) (w + 1) = V D w * 10 + (x - 48) := by
  show V (put D w x) w * 10 + (put D w x w - 48) = _
  rw [V_congr (E := D) w (fun i hi => by unfold put; rw [if_neg (by omega)]), show put D w x w = x by unfold put; rw [if_pos rfl]]

theorem rs3_V (k : Nat) (D0 : Nat → Int) : ∀ (c r w : Nat) (n : Int) (D : Nat → Int), w < r → (∀ i, r ≤ i → i < r + c → D i = D0 i) → V D w * 10 * 2 ^ k + n = V D0 r →
    V (rs3 k c r w n D).2.2 (w + c) * 10 * 2 ^ k + (rs3 k c r w n D).2.1 = V D0 (r + c)
  | 0, r, w, n, D, _, _, h => h
  | c + 1, r, w, n, D, hw, hD, h => by
    have e : V D0 (r + 1) = V D0 r * 10 + (D0 r - 48) := rfl
    have ih := rs3_V k D0 c (r + 1) (w + 1) (n % 2 ^ k * 10 + (D r - 48)) (put D w (n / 2 ^ k + 48)) (by omega) (fun i h1 h2 => by unfold put; rw [if_neg (by omega)]; exact hD i (by omega) (by omega)) (by
      rw [V_put, e, ← h, hD r (by omega) (by omega)]
      have hdm := Int.mul_ediv_add_emod n (2 ^ k)
      have hq := drop_sum (V D w) (n / 2 ^ k) (n % 2 ^ k) (2 ^ k) (D0 r - 48)
      rw [hdm] at hq
      exact hq)
    show V (rs3 k c (r + 1) (w + 1) (n % 2 ^ k * 10 + (D r - 48)) (put D w (n / 2 ^ k + 48))).2.2 (w + (c + 1)) * 10 * 2 ^ k + (rs3 k c (r + 1) (w + 1) (n % 2 ^ k * 10 + (D r - 48)) (put D w (n / 2 ^ k + 48))).2.1 = V D0 (r + (c + 1))
    rw [show w + (c + 1) = w + 1 + c by omega, show r + (c + 1) = r + 1 + c by omega]
    exact ih

theorem rs4_V (k : Nat) : ∀ (f w : Nat) (n : Int) (D : Nat → Int) (tr : Bool) (j : Nat) (Q : Int), j + f = k + 1 → TwoBy k j n → 0 ≤ n → n < 10 * 2 ^ k → w ≤ 800 → V D w * 10 * 2 ^ k + n = Q →
    V (rs4 k f w n D tr).2.1 (rs4 k f w n D tr).1 * 10 * 2 ^ k ≤ Q * 10 ^ ((rs4 k f w n D tr).1 - w) ∧
    (Q * 10 ^ ((rs4 k f w n D tr).1 - w) = V (rs4 k f w n D tr).2.1 (rs4 k f w n D tr).1 * 10 * 2 ^ k ∨ ((rs4 k f w n D tr).1 = 800 ∧ Q * 10 ^ ((rs4 k f w n D tr).1 - w) < (V (rs4 k f w n D tr).2.1 (rs4 k f w n D tr).1 + 1) * 10 * 2 ^ k))
  | 0, w, n, D, tr, j, Q, hj, ht, h0, hb, hw, h => by
    have hn : n = 0 := ht.2 (by omega)
    show V D w * 10 * 2 ^ k ≤ Q * 10 ^ (w - w) ∧ (Q * 10 ^ (w - w) = V D w * 10 * 2 ^ k ∨ _)
    rw [Nat.sub_self, Int.pow_zero]
    exact ⟨by omega, .inl (by omega)⟩
  | f + 1, w, n, D, tr, j, Q, hj, ht, h0, hb, hw, h => by
    obtain ⟨d1, d2, d3, d4⟩ := drop_dig k n h0 hb
    by_cases hn : n = 0
    · have e0 : rs4 k (f + 1) w n D tr = (w, D, tr) := by unfold rs4; rw [if_pos hn]
      rw [e0]
      dsimp only
      rw [Nat.sub_self, Int.pow_zero]
      exact ⟨by omega, .inl (by omega)⟩
    · by_cases h8 : w < 800
      · have e0 : rs4 k (f + 1) w n D tr = rs4 k f (w + 1) (n % 2 ^ k * 10) (put D w (n / 2 ^ k + 48)) tr := by
          conv => lhs; unfold rs4
          rw [if_neg hn, if_pos h8]
        have ih := rs4_V k f (w + 1) (n % 2 ^ k * 10) (put D w (n / 2 ^ k + 48)) tr (j + 1) (Q * 10) (by omega) (twoBy_step k j n ht) (by omega) (by omega) (by omega) (by
          rw [V_put, ← h]
          have hdm := Int.mul_ediv_add_emod n (2 ^ k)
          have hq := drop_sum (V D w) (n / 2 ^ k) (n % 2 ^ k) (2 ^ k) 0
          rw [hdm, Int.add_zero, Int.add_zero] at hq
          exact hq)
        have hle := (rs4_ok k f (w + 1) (n % 2 ^ k * 10) (put D w (n / 2 ^ k + 48)) tr (by omega) (by omega) (by omega)).1
        rw [e0]
        generalize rs4 k f (w + 1) (n % 2 ^ k * 10) (put D w (n / 2 ^ k + 48)) tr = R at *
        have e1 : Q * 10 * 10 ^ (R.1 - (w + 1)) = Q * 10 ^ (R.1 - w) := by
          rw [show R.1 - w = R.1 - (w + 1) + 1 by omega, Int.pow_succ, Int.mul_assoc, Int.mul_comm 10]
        rw [e1] at ih
        exact ih
      · have e0 : rs4 k (f + 1) w n D tr = rs4 k f w (n % 2 ^ k * 10) D (if 0 < n / 2 ^ k then true else tr) := by
          conv => lhs; unfold rs4
          rw [if_neg hn, if_neg h8]
        obtain ⟨e1, e2, e3, _⟩ := rs4_ok k f w (n % 2 ^ k * 10) D (if 0 < n / 2 ^ k then true else tr) (by omega) (by omega) hw
        rw [e0]
        generalize rs4 k f w (n % 2 ^ k * 10) D (if 0 < n / 2 ^ k then true else tr) = R at *
        have ew : R.1 = w := by omega
        rw [ew, Nat.sub_self, Int.pow_zero, V_congr w (fun i hi => e3 i hi)]
        refine ⟨by omega, .inr ⟨by omega, ?_⟩⟩
        rw [Int.add_mul, Int.add_mul]
        omega

/-- a shift to the right: the value by two to the k, less what falls behind digit 800. -/
theorem right_val {k : Nat} (h1 : 1 ≤ k) (h2 : k ≤ 60) {S : Dst} (hS : Good S) (hdp : -1000 ≤ S.dp) :
    U (rsS k S) * 2 ^ k ≤ U S ∧ U S * 999999999 ≤ U (rsS k S) * 2 ^ k * 1000000000 := by
  have hn1 := hS.n1
  have hn8 := hS.n8
  obtain ⟨g1, _, _, _⟩ := right_good h1 h2 hS
  obtain ⟨r1, n1, e, hP1, hP10, hr1, hr25, _⟩ := rs1_first k S.D S.nd h2 hS.dig hS.n1 hS.lead
  have p2 := two_pos' k
  have hnV := rs1_V k S.D S.nd 25 0 0 rfl
  rw [e] at hnV
  dsimp only at hnV
  obtain ⟨a1, a2, a3, a4, a5, a6, a7⟩ := rs3_ok k (S.nd - r1) r1 0 n1 S.D (by omega) hP10 (by omega) (fun i h1 h2 => hS.dig i (by omega))
  have h3V := rs3_V k (padD S.D S.nd) (S.nd - r1) r1 0 n1 S.D (by omega) (fun i q1 q2 => by unfold padD; rw [if_pos (by omega)]) (by rw [← hnV]; show 0 * 10 * 2 ^ k + n1 = n1; omega)
  obtain ⟨b1, b2, b3, b4, b5⟩ := rs4_ok k (k + 1) (rs3 k (S.nd - r1) r1 0 n1 S.D).1 (rs3 k (S.nd - r1) r1 0 n1 S.D).2.1 (rs3 k (S.nd - r1) r1 0 n1 S.D).2.2 S.tr a2 a3 (by omega)
  have hzw : 0 + (S.nd - r1) = S.nd - r1 := Nat.zero_add _
  have h4V := rs4_V k (k + 1) (rs3 k (S.nd - r1) r1 0 n1 S.D).1 (rs3 k (S.nd - r1) r1 0 n1 S.D).2.1 (rs3 k (S.nd - r1) r1 0 n1 S.D).2.2 S.tr 0 (V (padD S.D S.nd) (r1 + (S.nd - r1))) (by omega) (twoBy_zero k _) a2 a3 (by omega) (by rw [a1]; exact h3V)
  have hD : (rsS k S).D = (rs4 k (k + 1) (rs3 k (S.nd - r1) r1 0 n1 S.D).1 (rs3 k (S.nd - r1) r1 0 n1 S.D).2.1 (rs3 k (S.nd - r1) r1 0 n1 S.D).2.2 S.tr).2.1 := by
    show (rsRes k S.D S.nd S.dp S.tr).1 = _
    unfold rsRes
    rw [e]
  have hnd : (rsS k S).nd = trimN (rsS k S).D (rs4 k (k + 1) (rs3 k (S.nd - r1) r1 0 n1 S.D).1 (rs3 k (S.nd - r1) r1 0 n1 S.D).2.1 (rs3 k (S.nd - r1) r1 0 n1 S.D).2.2 S.tr).1 := by
    rw [hD]
    show (rsRes k S.D S.nd S.dp S.tr).2.1 = _
    unfold rsRes
    rw [e]
  have hdpe : (rsS k S).dp = S.dp - ((r1 : Int) - 1) := by
    have : (rsS k S).dp = trimDp (rsS k S).D (rs4 k (k + 1) (rs3 k (S.nd - r1) r1 0 n1 S.D).1 (rs3 k (S.nd - r1) r1 0 n1 S.D).2.1 (rs3 k (S.nd - r1) r1 0 n1 S.D).2.2 S.tr).1 (S.dp - ((r1 : Int) - 1)) := by
      rw [hD]
      show (rsRes k S.D S.nd S.dp S.tr).2.2.1 = _
      unfold rsRes
      rw [e]
    rw [this]
    unfold trimDp
    rw [← hnd, if_neg (by have := g1.n1; omega)]
  clear b3 b4 b5
  rw [a1, hzw] at h4V b1 b2 hD hnd
  generalize rs4 k (k + 1) (S.nd - r1) (rs3 k (S.nd - r1) r1 0 n1 S.D).2.1 (rs3 k (S.nd - r1) r1 0 n1 S.D).2.2 S.tr = R at *
  have htr := trim_V (rsS k S).D R.1
  have htl := trimN_le (rsS k S).D R.1
  rw [← hnd] at htr htl
  rw [← hD] at h4V
  -- the numbers
  obtain ⟨q, hq⟩ : ∃ q, q = R.1 - (S.nd - r1) := ⟨_, rfl⟩
  obtain ⟨W, hW⟩ : ∃ W, W = V (rsS k S).D R.1 := ⟨_, rfl⟩
  obtain ⟨Q, hQ⟩ : ∃ Q, Q = V (padD S.D S.nd) (r1 + (S.nd - r1)) := ⟨_, rfl⟩
  obtain ⟨E, hE⟩ : ∃ E : Nat, E = (S.dp - (r1 + (S.nd - r1) : Nat) + 3000).toNat := ⟨_, rfl⟩
  rw [← hq, ← hW, ← hQ] at h4V
  rw [← hW] at htr
  have eU : U S = Q * 10 ^ E := by
    unfold U
    have e1 : r1 + (S.nd - r1) = S.nd + (r1 + (S.nd - r1) - S.nd) := by omega
    rw [hQ, e1, padD_V, Int.mul_assoc, ← pow_add10]
    rw [show ex S = r1 + (S.nd - r1) - S.nd + E by unfold ex; omega]
  have eU2 : U (rsS k S) * 2 ^ k * 10 ^ q = W * 10 * 2 ^ k * 10 ^ E := by
    unfold U
    rw [← htr]
    have e1 : (10 : Int) ^ (R.1 - (rsS k S).nd) * 10 * 10 ^ E = 10 ^ ex (rsS k S) * 10 ^ q := by
      rw [← pow_add10, ← Int.pow_succ, ← pow_add10]
      exact congrArg _ (by unfold ex; omega)
    generalize V (rsS k S).D (rsS k S).nd = A at *
    generalize (10 : Int) ^ (R.1 - (rsS k S).nd) = B at *
    generalize (10 : Int) ^ ex (rsS k S) = C at *
    generalize (10 : Int) ^ q = T at *
    generalize (2 : Int) ^ k = P at *
    generalize (10 : Int) ^ E = F at *
    rw [mix4, ← e1]
    exact mix5 A B P F
  have pq := ten_pos q
  have pE := ten_pos E
  have h3 : U S * 10 ^ q = Q * 10 ^ q * 10 ^ E := by rw [eU, Int.mul_right_comm]
  constructor
  · refine cancel_le pq ?_
    rw [eU2, h3]
    exact Int.mul_le_mul_of_nonneg_right h4V.1 (Int.le_of_lt pE)
  · refine cancel_le pq ?_
    rw [Int.mul_right_comm _ _ (10 ^ q), Int.mul_right_comm _ _ (10 ^ q), eU2, h3, Int.mul_right_comm _ (10 ^ E), Int.mul_right_comm _ (10 ^ E)]
    refine Int.mul_le_mul_of_nonneg_right ?_ (Int.le_of_lt pE)
    have hW0 : 0 ≤ W := by
      rw [← htr]
      exact Int.mul_nonneg (V_nonneg _ (fun i hi => (g1.dig i hi).1)) (Int.le_of_lt (ten_pos _))
    have hWp : 0 ≤ W * 10 * 2 ^ k := Int.mul_nonneg (Int.mul_nonneg hW0 (by decide)) (Int.le_of_lt p2)
    rcases h4V.2 with h | ⟨hM, h⟩
    · rw [h]; omega
    · have hbig : 10 ^ 799 ≤ W := by
        rw [← htr]
        have hg := (good_V g1).1
        have hl := g1.lead
        have p1 := ten_pos ((rsS k S).nd - 1)
        have : 1 * 10 ^ ((rsS k S).nd - 1) ≤ ((rsS k S).D 0 - 48) * 10 ^ ((rsS k S).nd - 1) := Int.mul_le_mul_of_nonneg_right (by omega) (Int.le_of_lt p1)
        have h5 : 10 ^ ((rsS k S).nd - 1) * 10 ^ (R.1 - (rsS k S).nd) ≤ V (rsS k S).D (rsS k S).nd * 10 ^ (R.1 - (rsS k S).nd) := Int.mul_le_mul_of_nonneg_right (by omega) (Int.le_of_lt (ten_pos _))
        rw [← pow_add10, show (rsS k S).nd - 1 + (R.1 - (rsS k S).nd) = 799 by have := g1.n1; omega] at h5
        exact h5
      have h9 : (1000000000 : Int) ≤ 10 ^ 799 := by decide +kernel
      have h6 : (W + 1) * 10 * 2 ^ k * 999999999 ≤ W * 10 * 2 ^ k * 1000000000 := by
        have h7 : (W + 1) * 999999999 ≤ W * 1000000000 := by omega
        have h8 := Int.mul_le_mul_of_nonneg_right h7 (show 0 ≤ 10 * 2 ^ k by omega)
        have i1 : (W + 1) * 10 * 2 ^ k * 999999999 = (W + 1) * 999999999 * (10 * 2 ^ k) := mix6 _ _ _
        have i2 : W * 10 * 2 ^ k * 1000000000 = W * 1000000000 * (10 * 2 ^ k) := mix6 _ _ _
        rw [i1, i2]
        exact h8
      omega
end Go.Proofs.Qxb6606071aDoor.Fl
