import Derived.Test.Qxb6606071aDoorD4
import Derived.Laws.BitsAllLaws
/- rightShift. -/
namespace Go.Proofs.Qxb6606071aDoor.Fl
open Go.RowKit

/-- the leading digits that cover the shift (fuel first): places read, the number. -/
def rs1 (k : Nat) (D : Nat → Int) (nd : Nat) : Nat → Nat → Int → Nat × Int
  | 0, r, n => (r, n)
  | f + 1, r, n => if 2 ^ k ≤ n then (r, n) else if r < nd then rs1 k D nd f (r + 1) (n * 10 + (D r - 48)) else rs1 k D nd f (r + 1) (n * 10)

/-- a digit picked up, a digit put down. -/
def rs3 (k : Nat) : Nat → Nat → Nat → Int → (Nat → Int) → Nat × Int × (Nat → Int)
  | 0, _, w, n, D => (w, n, D)
  | c + 1, r, w, n, D => rs3 k c (r + 1) (w + 1) (n % 2 ^ k * 10 + (D r - 48)) (put D w (n / 2 ^ k + 48))

/-- the extra digits (fuel first). -/
def rs4 (k : Nat) : Nat → Nat → Int → (Nat → Int) → Bool → Nat × (Nat → Int) × Bool
  | 0, w, _, D, tr => (w, D, tr)
  | f + 1, w, n, D, tr => if n = 0 then (w, D, tr) else if w < 800 then rs4 k f (w + 1) (n % 2 ^ k * 10) (put D w (n / 2 ^ k + 48)) tr else rs4 k f w (n % 2 ^ k * 10) D (if 0 < n / 2 ^ k then true else tr)

theorem rs1_step (k : Nat) (D : Nat → Int) (nd : Nat) (P : Int) (hP : (2 : Int) ^ k = P) (f r : Nat) (n : Int) :
    (P ≤ n → rs1 k D nd f r n = (r, n)) ∧ (¬ P ≤ n → r < nd → rs1 k D nd (f + 1) r n = rs1 k D nd f (r + 1) (n * 10 + (D r - 48))) ∧ (¬ P ≤ n → ¬ r < nd → rs1 k D nd (f + 1) r n = rs1 k D nd f (r + 1) (n * 10)) := by
  subst hP
  refine ⟨fun h => ?_, fun h1 h2 => ?_, fun h1 h2 => ?_⟩
  · cases f with
    | zero => rfl
    | succ f => unfold rs1; rw [if_pos h]
  · conv => lhs; unfold rs1
    rw [if_neg h1, if_pos h2]
  · conv => lhs; unfold rs1
    rw [if_neg h1, if_neg h2]

theorem rs1_ok (k : Nat) (D : Nat → Int) (nd : Nat) (hk : k ≤ 60) (hd : ∀ i, i < nd → 48 ≤ D i ∧ D i ≤ 57) (hn1 : 1 ≤ nd) (h0 : 49 ≤ D 0) : ∀ (f r : Nat) (n : Int), r + f = 25 → 0 ≤ n → n < 10 * 2 ^ k → (r = 0 → n = 0) → (1 ≤ r → 10 ^ (r - 1) ≤ n) →
    ∃ r1 n1, rs1 k D nd f r n = (r1, n1) ∧ 2 ^ k ≤ n1 ∧ n1 < 10 * 2 ^ k ∧ 1 ≤ r1 ∧ r1 ≤ 25 ∧ r ≤ r1
  | f, r, n, hf, hn0, hnb, hz, h10 => by
    have p2 := two_pos' k
    by_cases hge : 2 ^ k ≤ n
    · refine ⟨r, n, (rs1_step k D nd _ rfl f r n).1 hge, hge, hnb, ?_, by omega, Nat.le_refl _⟩
      rcases Nat.eq_zero_or_pos r with h | h
      · have := hz h; omega
      · exact h
    · have hp60 : (2 : Int) ^ k ≤ 1152921504606846976 := by
        have h1 : (2 : Int) ^ k ≤ 2 ^ 60 := by
          have := Nat.pow_le_pow_right (n := 2) (by decide) hk
          exact_mod_cast this
        have h2 : (2 : Int) ^ 60 = 1152921504606846976 := by decide
        omega
      cases f with
      | zero =>
        have h24 := h10 (by omega)
        have e : r - 1 = 24 := by omega
        rw [e] at h24
        have h25 : (10 : Int) ^ 24 = 1000000000000000000000000 := by decide
        omega
      | succ f =>
        by_cases hrn : r < nd
        · have hx := hd r hrn
          obtain ⟨r1, n1, e, h1, h2, h3, h4, h5⟩ := rs1_ok k D nd hk hd hn1 h0 f (r + 1) (n * 10 + (D r - 48)) (by omega) (by omega) (by omega) (by omega) (by
            intro _
            rw [Nat.add_sub_cancel]
            cases r with
            | zero => show (1 : Int) ≤ _; omega
            | succ r' =>
              have := h10 (by omega)
              rw [Nat.add_sub_cancel] at this
              rw [Int.pow_succ]
              omega)
          exact ⟨r1, n1, by rw [(rs1_step k D nd _ rfl f r n).2.1 hge hrn]; exact e, h1, h2, h3, h4, by omega⟩
        · obtain ⟨r1, n1, e, h1, h2, h3, h4, h5⟩ := rs1_ok k D nd hk hd hn1 h0 f (r + 1) (n * 10) (by omega) (by omega) (by omega) (by omega) (by
            intro _
            rw [Nat.add_sub_cancel]
            cases r with
            | zero => omega
            | succ r' =>
              have := h10 (by omega)
              rw [Nat.add_sub_cancel] at this
              rw [Int.pow_succ]
              omega)
          exact ⟨r1, n1, by rw [(rs1_step k D nd _ rfl f r n).2.2 hge hrn]; exact e, h1, h2, h3, h4, by omega⟩

theorem rs1_first (k : Nat) (D : Nat → Int) (nd : Nat) (hk : k ≤ 60) (hd : ∀ i, i < nd → 48 ≤ D i ∧ D i ≤ 57) (hn1 : 1 ≤ nd) (h0 : 49 ≤ D 0) :
    ∃ r1 n1, rs1 k D nd 25 0 0 = (r1, n1) ∧ 2 ^ k ≤ n1 ∧ n1 < 10 * 2 ^ k ∧ 1 ≤ r1 ∧ r1 ≤ 25 ∧ (r1 = 1 → n1 = D 0 - 48) := by
  have p2 := two_pos' k
  have hx := hd 0 (by omega)
  have e1 : rs1 k D nd 25 0 0 = rs1 k D nd 24 1 (0 * 10 + (D 0 - 48)) := (rs1_step k D nd _ rfl 24 0 0).2.1 (by omega) (by omega)
  rw [Int.zero_mul, Int.zero_add] at e1
  by_cases hge : 2 ^ k ≤ D 0 - 48
  · have e2 := (rs1_step k D nd _ rfl 24 1 (D 0 - 48)).1 hge
    exact ⟨1, D 0 - 48, e1.trans e2, hge, by omega, by omega, by omega, fun _ => rfl⟩
  · obtain ⟨m, hm, hm0, hmb, hm10⟩ : ∃ m : Int, rs1 k D nd 24 1 (D 0 - 48) = rs1 k D nd 23 2 m ∧ 0 ≤ m ∧ m < 10 * 2 ^ k ∧ 10 ≤ m := by
      by_cases hrn : 1 < nd
      · have hx1 := hd 1 hrn
        exact ⟨_, (rs1_step k D nd _ rfl 23 1 (D 0 - 48)).2.1 hge hrn, by omega, by omega, by omega⟩
      · exact ⟨_, (rs1_step k D nd _ rfl 23 1 (D 0 - 48)).2.2 hge hrn, by omega, by omega, by omega⟩
    obtain ⟨r1, n1, e, h1, h2, h3, h4, h5⟩ := rs1_ok k D nd hk hd hn1 h0 23 2 m (by omega) hm0 hmb (by omega) (fun _ => by show (10 : Int) ≤ m; exact hm10)
    exact ⟨r1, n1, (e1.trans hm).trans e, h1, h2, h3, h4, fun h => by omega⟩

theorem drop_dig (k : Nat) (n : Int) (h0 : 0 ≤ n) (h : n < 10 * 2 ^ k) : 48 ≤ n / 2 ^ k + 48 ∧ n / 2 ^ k + 48 ≤ 57 ∧ 0 ≤ n % 2 ^ k ∧ n % 2 ^ k < 2 ^ k := by
  have p2 := two_pos' k
  have h1 : n / 2 ^ k < 10 := Int.ediv_lt_of_lt_mul p2 (by omega)
  have h2 : 0 ≤ n / 2 ^ k := Int.ediv_nonneg h0 (by omega)
  exact ⟨by omega, by omega, Int.emod_nonneg _ (by omega), Int.emod_lt_of_pos _ p2⟩

theorem rs3_ok (k : Nat) : ∀ (c r w : Nat) (n : Int) (D : Nat → Int), 0 ≤ n → n < 10 * 2 ^ k → w < r → (∀ i, r ≤ i → i < r + c → 48 ≤ D i ∧ D i ≤ 57) →
    (rs3 k c r w n D).1 = w + c ∧ 0 ≤ (rs3 k c r w n D).2.1 ∧ (rs3 k c r w n D).2.1 < 10 * 2 ^ k ∧ (∀ i, i < w → (rs3 k c r w n D).2.2 i = D i) ∧ (∀ i, w ≤ i → i < w + c → 48 ≤ (rs3 k c r w n D).2.2 i ∧ (rs3 k c r w n D).2.2 i ≤ 57) ∧ (1 ≤ c → (rs3 k c r w n D).2.2 w = n / 2 ^ k + 48) ∧ (c = 0 → (rs3 k c r w n D).2.1 = n)
  | 0, r, w, n, D, h0, hb, hw, hd => ⟨rfl, h0, hb, fun _ _ => rfl, fun i h1 h2 => by omega, fun h => by omega, fun _ => rfl⟩
  | c + 1, r, w, n, D, h0, hb, hw, hd => by
    obtain ⟨d1, d2, d3, d4⟩ := drop_dig k n h0 hb
    have hx := hd r (by omega) (by omega)
    obtain ⟨e1, e2, e3, e4, e5, e6, e7⟩ := rs3_ok k c (r + 1) (w + 1) (n % 2 ^ k * 10 + (D r - 48)) (put D w (n / 2 ^ k + 48)) (by omega) (by omega) (by omega) (fun i h1 h2 => by unfold put; rw [if_neg (by omega)]; exact hd i (by omega) (by omega))
    have e0 : rs3 k (c + 1) r w n D = rs3 k c (r + 1) (w + 1) (n % 2 ^ k * 10 + (D r - 48)) (put D w (n / 2 ^ k + 48)) := rfl
    rw [e0]
    have hat : (rs3 k c (r + 1) (w + 1) (n % 2 ^ k * 10 + (D r - 48)) (put D w (n / 2 ^ k + 48))).2.2 w = n / 2 ^ k + 48 := by
      rw [e4 w (by omega)]; unfold put; rw [if_pos rfl]
    refine ⟨by omega, e2, e3, fun i hi => ?_, fun i h1 h2 => ?_, fun _ => hat, fun h => by omega⟩
    · rw [e4 i (by omega)]; unfold put; rw [if_neg (by omega)]
    · by_cases hi : i = w
      · subst hi; rw [hat]; exact ⟨d1, d2⟩
      · exact e5 i (by omega) (by omega)

theorem rs4_ok (k : Nat) : ∀ (f w : Nat) (n : Int) (D : Nat → Int) (tr : Bool), 0 ≤ n → n < 10 * 2 ^ k → w ≤ 800 →
    w ≤ (rs4 k f w n D tr).1 ∧ (rs4 k f w n D tr).1 ≤ 800 ∧ (∀ i, i < w → (rs4 k f w n D tr).2.1 i = D i) ∧ (∀ i, w ≤ i → i < (rs4 k f w n D tr).1 → 48 ≤ (rs4 k f w n D tr).2.1 i ∧ (rs4 k f w n D tr).2.1 i ≤ 57) ∧ (1 ≤ f → n ≠ 0 → w < 800 → (rs4 k f w n D tr).2.1 w = n / 2 ^ k + 48 ∧ w + 1 ≤ (rs4 k f w n D tr).1)
  | 0, w, n, D, tr, h0, hb, hw => ⟨Nat.le_refl _, hw, fun _ _ => rfl, fun i h1 (h2 : i < w) => by omega, fun h => by omega⟩
  | f + 1, w, n, D, tr, h0, hb, hw => by
    obtain ⟨d1, d2, d3, d4⟩ := drop_dig k n h0 hb
    by_cases hn : n = 0
    · have e0 : rs4 k (f + 1) w n D tr = (w, D, tr) := by unfold rs4; rw [if_pos hn]
      rw [e0]
      exact ⟨Nat.le_refl _, hw, fun _ _ => rfl, fun i h1 (h2 : i < w) => by omega, fun _ h => absurd hn h⟩
    · by_cases h8 : w < 800
      · have e0 : rs4 k (f + 1) w n D tr = rs4 k f (w + 1) (n % 2 ^ k * 10) (put D w (n / 2 ^ k + 48)) tr := by
          conv => lhs; unfold rs4
          rw [if_neg hn, if_pos h8]
        obtain ⟨e1, e2, e3, e4, e5⟩ := rs4_ok k f (w + 1) (n % 2 ^ k * 10) (put D w (n / 2 ^ k + 48)) tr (by omega) (by omega) (by omega)
        rw [e0]
        have hat : (rs4 k f (w + 1) (n % 2 ^ k * 10) (put D w (n / 2 ^ k + 48)) tr).2.1 w = n / 2 ^ k + 48 := by
          rw [e3 w (by omega)]; unfold put; rw [if_pos rfl]
        refine ⟨by omega, e2, fun i hi => ?_, fun i h1 h2 => ?_, fun _ _ _ => ⟨hat, e1⟩⟩
        · rw [e3 i (by omega)]; unfold put; rw [if_neg (by omega)]
        · by_cases hi : i = w
          · subst hi; rw [hat]; exact ⟨d1, d2⟩
          · exact e4 i (by omega) h2
      · have e0 : rs4 k (f + 1) w n D tr = rs4 k f w (n % 2 ^ k * 10) D (if 0 < n / 2 ^ k then true else tr) := by
          conv => lhs; unfold rs4
          rw [if_neg hn, if_neg h8]
        obtain ⟨e1, e2, e3, e4, e5⟩ := rs4_ok k f w (n % 2 ^ k * 10) D (if 0 < n / 2 ^ k then true else tr) (by omega) (by omega) hw
        rw [e0]
        exact ⟨e1, e2, e3, e4, fun _ _ h => absurd h h8⟩

theorem and_mask (k : Nat) (P n : Int) (hP : (2 : Int) ^ k = P) (hk : k ≤ 60) (h0 : 0 ≤ n) (hn : n < 18446744073709551616) : bits .and .u64 n (P - 1) = n % P := by
  obtain ⟨a, rfl⟩ : ∃ a : Nat, n = (a : Int) := ⟨n.toNat, by omega⟩
  have hp : 2 ^ k ≤ 2 ^ 60 := Nat.pow_le_pow_right (by decide) hk
  have hp' : (2 : Nat) ^ 60 = 1152921504606846976 := by decide
  have h1 := Nat.two_pow_pos k
  have e : P - 1 = ((2 ^ k - 1 : Nat) : Int) := by
    rw [← hP]
    have : ((2 ^ k : Nat) : Int) = (2 : Int) ^ k := by simp
    omega
  rw [e, u64_and_nat a (2 ^ k - 1) (by omega) (by omega), Nat.and_two_pow_sub_one_eq_mod, ← hP]
  simp

/-- a digit put down, as the machine reckons it. -/
theorem drop_step (k : Nat) (P n : Int) (hP : (2 : Int) ^ k = P) (hk : k ≤ 60) (h0 : 0 ≤ n) (hn : n < 11529215046068469760) (h10 : n < 10 * P) : ∃ q rm : Int, n / P = q ∧ bits .and .u64 n (P - 1) = rm ∧ 0 ≤ q ∧ q ≤ 9 ∧ 0 ≤ rm ∧ rm < P ∧ Hid (q = n / 2 ^ k ∧ rm = n % 2 ^ k) := by
  have hp : 0 < P := by rw [← hP]; exact two_pos' k
  refine ⟨n / P, n % P, rfl, and_mask k P n hP hk h0 (by omega), Int.ediv_nonneg h0 (by omega), ?_, Int.emod_nonneg _ (by omega), Int.emod_lt_of_pos _ hp, by rw [hP], by rw [hP]⟩
  have : n / P < 10 := Int.ediv_lt_of_lt_mul hp (by omega)
  omega

/-- the fraction's end: twos gather in it. -/
def TwoBy (k j : Nat) (m : Int) : Prop := (j ≤ k → ∃ c : Int, m = 2 ^ j * c) ∧ (k + 1 ≤ j → m = 0)
theorem twoBy_zero (k : Nat) (n : Int) : TwoBy k 0 n := ⟨fun _ => ⟨n, by simp⟩, fun h => absurd h (by omega)⟩
theorem twoBy_step (k j : Nat) (m : Int) (h : TwoBy k j m) : TwoBy k (j + 1) (m % 2 ^ k * 10) := by
  rcases Nat.lt_trichotomy j k with hjk | rfl | hjk
  · obtain ⟨c, rfl⟩ := h.1 (by omega)
    refine ⟨fun _ => ⟨c % 2 ^ (k - j) * 5, ?_⟩, fun h2 => absurd h2 (by omega)⟩
    have e : (2 : Int) ^ k = 2 ^ j * 2 ^ (k - j) := by rw [← Int.pow_add]; exact congrArg _ (by omega)
    rw [e, Int.mul_emod_mul_of_pos _ _ (two_pos' j), Int.pow_succ]
    rw [Int.mul_assoc, Int.mul_assoc]
    congr 1
    omega
  · obtain ⟨c, rfl⟩ := h.1 (Nat.le_refl _)
    refine ⟨fun h2 => absurd h2 (by omega), fun _ => ?_⟩
    rw [Int.mul_emod_right]; rfl
  · have := h.2 (by omega)
    subst this
    exact ⟨fun _ => ⟨0, by simp⟩, fun _ => by simp⟩

/-- rightShift's answer: bytes, nd, dp, trunc. -/
def rsRes (k : Nat) (D : Nat → Int) (nd : Nat) (dp : Int) (tr : Bool) : (Nat → Int) × Nat × Int × Bool :=
  ((rs4 k (k + 1) (rs3 k (nd - (rs1 k D nd 25 0 0).1) (rs1 k D nd 25 0 0).1 0 (rs1 k D nd 25 0 0).2 D).1 (rs3 k (nd - (rs1 k D nd 25 0 0).1) (rs1 k D nd 25 0 0).1 0 (rs1 k D nd 25 0 0).2 D).2.1 (rs3 k (nd - (rs1 k D nd 25 0 0).1) (rs1 k D nd 25 0 0).1 0 (rs1 k D nd 25 0 0).2 D).2.2 tr).2.1,
   trimN (rs4 k (k + 1) (rs3 k (nd - (rs1 k D nd 25 0 0).1) (rs1 k D nd 25 0 0).1 0 (rs1 k D nd 25 0 0).2 D).1 (rs3 k (nd - (rs1 k D nd 25 0 0).1) (rs1 k D nd 25 0 0).1 0 (rs1 k D nd 25 0 0).2 D).2.1 (rs3 k (nd - (rs1 k D nd 25 0 0).1) (rs1 k D nd 25 0 0).1 0 (rs1 k D nd 25 0 0).2 D).2.2 tr).2.1 (rs4 k (k + 1) (rs3 k (nd - (rs1 k D nd 25 0 0).1) (rs1 k D nd 25 0 0).1 0 (rs1 k D nd 25 0 0).2 D).1 (rs3 k (nd - (rs1 k D nd 25 0 0).1) (rs1 k D nd 25 0 0).1 0 (rs1 k D nd 25 0 0).2 D).2.1 (rs3 k (nd - (rs1 k D nd 25 0 0).1) (rs1 k D nd 25 0 0).1 0 (rs1 k D nd 25 0 0).2 D).2.2 tr).1,
   trimDp (rs4 k (k + 1) (rs3 k (nd - (rs1 k D nd 25 0 0).1) (rs1 k D nd 25 0 0).1 0 (rs1 k D nd 25 0 0).2 D).1 (rs3 k (nd - (rs1 k D nd 25 0 0).1) (rs1 k D nd 25 0 0).1 0 (rs1 k D nd 25 0 0).2 D).2.1 (rs3 k (nd - (rs1 k D nd 25 0 0).1) (rs1 k D nd 25 0 0).1 0 (rs1 k D nd 25 0 0).2 D).2.2 tr).2.1 (rs4 k (k + 1) (rs3 k (nd - (rs1 k D nd 25 0 0).1) (rs1 k D nd 25 0 0).1 0 (rs1 k D nd 25 0 0).2 D).1 (rs3 k (nd - (rs1 k D nd 25 0 0).1) (rs1 k D nd 25 0 0).1 0 (rs1 k D nd 25 0 0).2 D).2.1 (rs3 k (nd - (rs1 k D nd 25 0 0).1) (rs1 k D nd 25 0 0).1 0 (rs1 k D nd 25 0 0).2 D).2.2 tr).1 (dp - (((rs1 k D nd 25 0 0).1 : Int) - 1)),
   (rs4 k (k + 1) (rs3 k (nd - (rs1 k D nd 25 0 0).1) (rs1 k D nd 25 0 0).1 0 (rs1 k D nd 25 0 0).2 D).1 (rs3 k (nd - (rs1 k D nd 25 0 0).1) (rs1 k D nd 25 0 0).1 0 (rs1 k D nd 25 0 0).2 D).2.1 (rs3 k (nd - (rs1 k D nd 25 0 0).1) (rs1 k D nd 25 0 0).1 0 (rs1 k D nd 25 0 0).2 D).2.2 tr).2.2)

/-- rightShift keeps a decimal in order, and lowers its point or its first digit. -/
theorem right_ok (k : Nat) (hk1 : 1 ≤ k) (hk : k ≤ 60) (D : Nat → Int) (nd : Nat) (hn1 : 1 ≤ nd) (hn8 : nd ≤ 800) (hd : ∀ i, i < nd → 48 ≤ D i ∧ D i ≤ 57) (h0 : 49 ≤ D 0) (dp : Int) (tr : Bool) :
    1 ≤ (rsRes k D nd dp tr).2.1 ∧ (rsRes k D nd dp tr).2.1 ≤ 800 ∧ (∀ i, i < (rsRes k D nd dp tr).2.1 → 48 ≤ (rsRes k D nd dp tr).1 i ∧ (rsRes k D nd dp tr).1 i ≤ 57) ∧ 49 ≤ (rsRes k D nd dp tr).1 0 ∧
    (rsRes k D nd dp tr).2.2.1 ≤ dp ∧ dp - 24 ≤ (rsRes k D nd dp tr).2.2.1 ∧ ((rsRes k D nd dp tr).2.2.1 = dp → (rsRes k D nd dp tr).1 0 < D 0) := by
  obtain ⟨r1, n1, e, hP1, hP10, hr1, hr25, hfirst⟩ := rs1_first k D nd hk hd hn1 h0
  have p2 := two_pos' k
  obtain ⟨a1, a2, a3, a4, a5, a6, a7⟩ := rs3_ok k (nd - r1) r1 0 n1 D (by omega) hP10 (by omega) (fun i h1 h2 => hd i (by omega))
  obtain ⟨b1, b2, b3, b4, b5⟩ := rs4_ok k (k + 1) (rs3 k (nd - r1) r1 0 n1 D).1 (rs3 k (nd - r1) r1 0 n1 D).2.1 (rs3 k (nd - r1) r1 0 n1 D).2.2 tr a2 a3 (by omega)
  unfold rsRes
  rw [e]
  simp only
  generalize hR3 : rs3 k (nd - r1) r1 0 n1 D = R3 at *
  generalize hR4 : rs4 k (k + 1) R3.1 R3.2.1 R3.2.2 tr = R4 at *
  have hq : 1 ≤ n1 / 2 ^ k := Int.le_ediv_of_mul_le p2 (by omega)
  have hlead : R4.2.1 0 = n1 / 2 ^ k + 48 ∧ 1 ≤ R4.1 := by
    by_cases hc : 1 ≤ nd - r1
    · refine ⟨?_, by omega⟩
      rw [b3 0 (by omega)]
      exact a6 hc
    · have ez : nd - r1 = 0 := by omega
      have e7 := a7 ez
      have ew : R3.1 = 0 := by omega
      have := b5 (by omega) (by omega) (by omega)
      rw [ew, e7] at this
      exact ⟨this.1, this.2⟩
  have hall : ∀ i, i < R4.1 → 48 ≤ R4.2.1 i ∧ R4.2.1 i ≤ 57 := fun i hi => by
    by_cases hi3 : i < R3.1
    · rw [b3 i hi3]; exact a5 i (by omega) (by omega)
    · exact b4 i (by omega) hi
  have hne : R4.2.1 0 ≠ 48 := by omega
  have ht1 := trimN_pos R4.2.1 hne R4.1 hlead.2
  have ht2 := trimN_le R4.2.1 R4.1
  have hdp : trimDp R4.2.1 R4.1 (dp - ((r1 : Int) - 1)) = dp - ((r1 : Int) - 1) := by
    unfold trimDp; rw [if_neg (by omega)]
  refine ⟨ht1, by omega, fun i hi => hall i (by omega), by omega, by omega, by omega, fun h => ?_⟩
  rw [hdp] at h
  have hr : r1 = 1 := by omega
  have hn := hfirst hr
  rw [hlead.1]
  have h2k : (2 : Int) ≤ 2 ^ k := by
    have := Nat.pow_le_pow_right (n := 2) (by decide) hk1
    exact_mod_cast this
  have : n1 / 2 ^ k < n1 := Int.ediv_lt_of_lt_mul p2 (by
    have := Int.mul_le_mul_of_nonneg_left h2k (by omega : 0 ≤ n1)
    omega)
  omega

set_option maxHeartbeats 4000000 in
set_option maxRecDepth 100000 in
theorem rightShift_walk (a : Nat) (D : Nat → Int) (nd : Nat) (dp : Int) (neg tr : Bool) (k : Nat) (w : World) (h : DecAt a D nd dp neg tr w) (hnd : nd ≤ 800) (hn1 : 1 ≤ nd) (hk : k ≤ 60) (hk1 : 1 ≤ k) (hd : ∀ i, i < nd → 48 ≤ D i ∧ D i ≤ 57) (h0 : 49 ≤ D 0) (hdp : -100000 ≤ dp ∧ dp ≤ 100000) :
    Calls Tryd.prog 85 #[.pointer (some ⟨a, 0, none⟩), .int .u64 k] w fun e w' => e = .returned (.tuple #[]) ∧ DecAt a (rsRes k D nd dp tr).1 (rsRes k D nd dp tr).2.1 (rsRes k D nd dp tr).2.2.1 neg (rsRes k D nd dp tr).2.2.2 w' ∧ Below a w w' := by
  have hn := h.nd
  have hk64 : (k : Int) < 64 := by omega
  have H0 := hide h
  clear h
  obtain ⟨P, hP⟩ : ∃ P : Int, (2 : Int) ^ k = P := ⟨_, rfl⟩
  have hP1 : 1 ≤ P := by rw [← hP]; exact two_pos' k
  have hP60 : P ≤ 1152921504606846976 := by
    rw [← hP]
    have h1 : (2 : Int) ^ k ≤ 2 ^ 60 := by
      have := Nat.pow_le_pow_right (n := 2) (by decide) hk
      exact_mod_cast this
    have h2 : (2 : Int) ^ 60 = 1152921504606846976 := by decide
    omega
  have HS := hide (fun f r n => rs1_step k D nd P hP f r n)
  have HR1 : ∃ (r1 : Nat) (n1 : Int), rs1 k D nd 25 0 0 = (r1, n1) ∧ P ≤ n1 ∧ n1 < 10 * P ∧ 1 ≤ r1 ∧ r1 ≤ 25 := by
    obtain ⟨r1, n1, e, h1, h2, h3, h4, _⟩ := rs1_first k D nd hk hd hn1 h0
    rw [hP] at h1 h2
    exact ⟨r1, n1, e, h1, h2, h3, h4⟩
  go_enter Tryd.func85, Tryd.ntmps85
  go_upto_block 0 with fail
  go_cut [4, 6] from 12 to 48 (fun s4 s6 wx => s4 = .int .i64 (rs1 k D nd 25 0 0).1 ∧ s6 = .int .u64 (rs1 k D nd 25 0 0).2 ∧ wx = w)
  case first =>
    go_wp2
    go_loopg [4, 6, 7] 25 (fun gf s4 s6 s7 wx => ∃ (r : Nat) (n : Int), s4 = .int .i64 r ∧ s6 = .int .u64 n ∧ r + gf = 25 ∧ 0 ≤ n ∧ n < 11529215046068469760 ∧ wx = w ∧ (1 ≤ r → 1 ≤ n) ∧ Hid ((1 ≤ r → 10 ^ (r - 1) ≤ n) ∧ rs1 k D nd gf r n = rs1 k D nd 25 0 0))
    case atStart => exact ⟨0, 0, rfl, rfl, rfl, by omega, by omega, rfl, (fun h => absurd h (by omega)), (fun h => absurd h (by omega)), rfl⟩
    case round =>
      obtain ⟨r, n, rfl, rfl, hrg, hn0, hnb, rfl, hr1, HH⟩ := hrel
      by_cases hge : P ≤ n
      · have hq : ¬ (n / P = 0) := by
          have : 1 ≤ n / P := Int.le_ediv_of_mul_le (by omega) (by omega)
          omega
        have HE := hide (show rs1 k D nd 25 0 0 = (r, n) by rw [← (unhide HH).2]; exact (unhide HS gk r n).1 hge)
        clear HH
        go_wp2_with fail
        go_meet
        rw [unhide HE]
        exact ⟨rfl, rfl, rfl⟩
      · have hq : n / P = 0 := Int.ediv_eq_zero_of_lt hn0 (by omega)
        cases gk with
        | zero =>
          have h24 := (unhide HH).1 (by omega)
          have e : r - 1 = 24 := by omega
          rw [e] at h24
          have h25 : (10 : Int) ^ 24 = 1000000000000000000000000 := by decide
          omega
        | succ g =>
          by_cases hrn : r < nd
          · have hrz : ¬ ((nd : Int) ≤ (r : Int)) := by omega
            have cx := (unhide H0).dig r (by omega)
            have hx := hd r hrn
            obtain ⟨x, hxe⟩ : ∃ x : Nat, D r = (x : Int) + 48 := ⟨(D r - 48).toNat, by omega⟩
            rw [hxe] at cx
            have hr8 : (r : Int) < 800 := by omega
            have HN := hide (show rs1 k D nd g (r + 1) (n * 10 + ((x : Int) + 48) - 48) = rs1 k D nd 25 0 0 by
              rw [← (unhide HH).2, (unhide HS g r n).2.1 (by omega) hrn, hxe]
              congr 1; omega)
            have HP10 := hide (show (10 : Int) ^ r ≤ n * 10 + ((x : Int) + 48) - 48 by
              cases r with
              | zero => show (1 : Int) ≤ _; omega
              | succ r' =>
                have := (unhide HH).1 (by omega)
                rw [Nat.add_sub_cancel] at this
                rw [Int.pow_succ]
                omega)
            have hm1 : 1 ≤ n * 10 + ((x : Int) + 48) - 48 := by
              cases r with
              | zero => omega
              | succ r' => have := hr1 (by omega); omega
            clear HH
            go_wp2
            go_roundg g
            case measure => omega
            case rel => exact ⟨r + 1, n * 10 + ((x : Int) + 48) - 48, by go_num, rfl, by omega, by omega, by omega, rfl, (fun _ => hm1), (fun _ => unhide HP10), unhide HN⟩
          · have hrz : (nd : Int) ≤ (r : Int) := by omega
            have hr0 : 1 ≤ n := hr1 (by omega)
            have hnz : ¬ (n = 0) := by omega
            go_wp2
            go_loopg [4, 6] (g + 1) (fun gf s4 s6 wx => ∃ (r2 : Nat) (n2 : Int), s4 = .int .i64 r2 ∧ s6 = .int .u64 n2 ∧ r2 + gf = 25 ∧ 1 ≤ n2 ∧ n2 < 11529215046068469760 ∧ wx = wr ∧ nd ≤ r2 ∧ Hid ((1 ≤ r2 → 10 ^ (r2 - 1) ≤ n2) ∧ rs1 k D nd gf r2 n2 = rs1 k D nd 25 0 0))
            case atStart => exact ⟨r, n, rfl, rfl, by omega, hr0, hnb, rfl, by omega, HH⟩
            case round =>
              obtain ⟨r2, n2, rfl, rfl, hrg2, hn02, hnb2, rfl, hnr2, HH2⟩ := hrel
              by_cases hge2 : P ≤ n2
              · have hq2 : ¬ (n2 / P = 0) := by
                  have : 1 ≤ n2 / P := Int.le_ediv_of_mul_le (by omega) (by omega)
                  omega
                have HE := hide (show rs1 k D nd 25 0 0 = (r2, n2) by rw [← (unhide HH2).2]; exact (unhide HS gk r2 n2).1 hge2)
                clear HH2
                go_wp2_with fail
                go_meet
                rw [unhide HE]
                exact ⟨rfl, rfl, rfl⟩
              · have hq2 : n2 / P = 0 := Int.ediv_eq_zero_of_lt (by omega) (by omega)
                cases gk with
                | zero =>
                  have h24 := (unhide HH2).1 (by omega)
                  have e : r2 - 1 = 24 := by omega
                  rw [e] at h24
                  have h25 : (10 : Int) ^ 24 = 1000000000000000000000000 := by decide
                  omega
                | succ g2 =>
                  have HN := hide (show rs1 k D nd g2 (r2 + 1) (n2 * 10) = rs1 k D nd 25 0 0 by
                    rw [← (unhide HH2).2, (unhide HS g2 r2 n2).2.2 (by omega) (by omega)])
                  have HP10 := hide (show (10 : Int) ^ r2 ≤ n2 * 10 by
                    cases r2 with
                    | zero => omega
                    | succ r' =>
                      have := (unhide HH2).1 (by omega)
                      rw [Nat.add_sub_cancel] at this
                      rw [Int.pow_succ]
                      omega)
                  clear HH2
                  go_wp2
                  go_roundg g2
                  case measure => omega
                  case rel => exact ⟨r2 + 1, n2 * 10, by go_num, rfl, by omega, by omega, by omega, rfl, by omega, (fun _ => unhide HP10), unhide HN⟩
  case rest =>
    obtain ⟨rfl, rfl, rfl⟩ := hcut
    obtain ⟨r1, n1, hr1e, hn1P, hn1P10, hr11, hr125⟩ := HR1
    rw [hr1e]
    have cp := (unhide H0).dp
    have fp := (unhide H0).fr 801 (by omega)
    go_wp2
    go_loopg [4, 5, 6] (nd - r1) (fun gf s4 s5 s6 wx => ∃ (r wi : Nat) (n : Int) (D1 : Nat → Int), s4 = .int .i64 r ∧ s5 = .int .i64 wi ∧ s6 = .int .u64 n ∧ r + gf = max nd r1 ∧ wi < r ∧ wi ≤ 800 ∧ (1 ≤ gf → r + gf = nd) ∧ 0 ≤ n ∧ n < 11529215046068469760 ∧
      Hid (n < 10 * P ∧ (∀ i, r ≤ i → D1 i = D i) ∧ rs3 k gf r wi n D1 = rs3 k (nd - r1) r1 0 n1 D ∧ DecAt a D1 nd (dp - ((r1 : Int) - 1)) neg tr wx ∧ Below a wc wx))
    case atStart => exact ⟨r1, 0, n1, D, rfl, rfl, rfl, by omega, by omega, by omega, by omega, by omega, by omega, hn1P10, fun _ _ => rfl, rfl, (unhide H0).setDp _, (Below.refl _ _).setCell (p := ⟨a, 801, none⟩) (Nat.le_refl _) _⟩
    case round =>
      obtain ⟨r, wi, n, D1, rfl, rfl, rfl, hrg, hwr, hw8, hgn, hn0, hnb, HH⟩ := hrel
      cases gk with
      | zero =>
        have hrz : ¬ ((r : Int) < (nd : Int)) := by omega
        have cn := (unhide HH).2.2.2.1.nd
        have HR3 := hide (show rs3 k (nd - r1) r1 0 n1 D = (wi, n, D1) from (unhide HH).2.2.1.symm)
        have HH2 := hide (And.intro (unhide HH).1 (And.intro (unhide HH).2.2.2.1 (unhide HH).2.2.2.2))
        clear HH
        go_wp2
        go_loopg [5, 6] (k + 1) (fun gf s5 s6 wx => ∃ (w2 j : Nat) (m : Int) (D3 : Nat → Int) (t3 : Bool), s5 = .int .i64 w2 ∧ s6 = .int .u64 m ∧ w2 ≤ 800 ∧ j + gf = k + 1 ∧ 0 ≤ m ∧ m < 11529215046068469760 ∧
          Hid (m < 10 * P ∧ TwoBy k j m ∧ rs4 k gf w2 m D3 t3 = rs4 k (k + 1) wi n D1 tr ∧ DecAt a D3 nd (dp - ((r1 : Int) - 1)) neg t3 wx ∧ Below a wc wx))
        case atStart => exact ⟨wi, 0, n, D1, tr, rfl, rfl, hw8, by omega, hn0, hnb, (unhide HH2).1, twoBy_zero k n, rfl, (unhide HH2).2.1, (unhide HH2).2.2⟩
        case round =>
          obtain ⟨w2, j, m, D3, t3, rfl, rfl, hw28, hjg, hm0, hmb, HK⟩ := hrel
          by_cases hmz : m = 0
          · subst hmz
            have HR4 := hide (show rs4 k (k + 1) wi n D1 tr = (w2, D3, t3) by
              rw [← (unhide HK).2.2.1]
              cases gk with
              | zero => rfl
              | succ g => unfold rs4; rw [if_pos rfl])
            have cn2 := (unhide HK).2.2.2.1.nd
            have fn2 := (unhide HK).2.2.2.1.fr 800 (by omega)
            have H5 := hide (And.intro ((unhide HK).2.2.2.1.setNd w2) ((unhide HK).2.2.2.2.setCell (p := ⟨a, 800, none⟩) (Nat.le_refl _) (.int .i64 w2)))
            have HT := hide (fun N z w5 (h5 : DecAt a D3 N z neg t3 w5) (hN : N ≤ 800) => trim_any a D3 N z neg t3 w5 h5 hN)
            go_wp2_with (go_at_call 92; refine (unhide HT _ _ _ (unhide H5).1 (by omega)).mono ?_; rintro e w6 ⟨rfl, h6, hb6⟩)
            go_end0
            refine ⟨rfl, ?_, (unhide H5).2.trans hb6⟩
            unfold rsRes
            rw [hr1e]
            simp only
            rw [unhide HR3]
            simp only
            rw [unhide HR4]
            exact h6
          · cases gk with
            | zero =>
              exact absurd ((unhide HK).2.1.2 (by omega)) hmz
            | succ g =>
              obtain ⟨qq, rm, e1, e2, hq0, hq9, hrm0, hrmP, HQ⟩ := drop_step k P m hP hk hm0 hmb (unhide HK).1
              have hmp : (0 : Int) < m := by omega
              have HTB := hide (show TwoBy k (j + 1) (rm * 10) by rw [(unhide HQ).2]; exact twoBy_step k j m (unhide HK).2.1)
              have hrb : rm * 10 < 10 * P := by omega
              by_cases h8 : w2 < 800
              · have h8z : (w2 : Int) < 800 := by omega
                have cw := (unhide HK).2.2.2.1.dig w2 h8
                have fw := (unhide HK).2.2.2.1.fr w2 (by omega)
                have HL := hide (show rs4 k g (w2 + 1) (rm * 10) (put D3 w2 (qq + 48)) t3 = rs4 k (k + 1) wi n D1 tr by
                  rw [← (unhide HK).2.2.1]
                  conv => rhs; unfold rs4
                  rw [if_neg hmz, if_pos h8, ← (unhide HQ).1, ← (unhide HQ).2])
                go_wp2
                go_roundg g
                case measure => omega
                case rel => exact ⟨w2 + 1, j + 1, rm * 10, put D3 w2 (qq + 48), t3, by go_num, rfl, by omega, by omega, by omega, by omega, hrb, unhide HTB, unhide HL, (unhide HK).2.2.2.1.setDig w2 h8 _, (unhide HK).2.2.2.2.setCell (p := ⟨a, w2, none⟩) (Nat.le_refl _) _⟩
              · have h8z : ¬ ((w2 : Int) < 800) := by omega
                have ct := (unhide HK).2.2.2.1.tr
                have ft := (unhide HK).2.2.2.1.fr 803 (by omega)
                by_cases hqz : 0 < qq
                · have HL := hide (show rs4 k g w2 (rm * 10) D3 true = rs4 k (k + 1) wi n D1 tr by
                    rw [← (unhide HK).2.2.1]
                    conv => rhs; unfold rs4
                    rw [if_neg hmz, if_neg h8, ← (unhide HQ).1, ← (unhide HQ).2, if_pos hqz])
                  go_wp2
                  go_roundg g
                  case measure => omega
                  case rel => exact ⟨w2, j + 1, rm * 10, D3, true, rfl, rfl, by omega, by omega, by omega, by omega, hrb, unhide HTB, unhide HL, (unhide HK).2.2.2.1.setTr true, (unhide HK).2.2.2.2.setCell (p := ⟨a, 803, none⟩) (Nat.le_refl _) _⟩
                · have HL := hide (show rs4 k g w2 (rm * 10) D3 t3 = rs4 k (k + 1) wi n D1 tr by
                    rw [← (unhide HK).2.2.1]
                    conv => rhs; unfold rs4
                    rw [if_neg hmz, if_neg h8, ← (unhide HQ).1, ← (unhide HQ).2, if_neg hqz])
                  go_wp2
                  go_roundg g
                  case measure => omega
                  case rel => exact ⟨w2, j + 1, rm * 10, D3, t3, rfl, rfl, by omega, by omega, by omega, by omega, hrb, unhide HTB, unhide HL, (unhide HK).2.2.2.1, (unhide HK).2.2.2.2⟩
      | succ g =>
        have hgn' := hgn (by omega)
        have hrz : (r : Int) < (nd : Int) := by omega
        have hx := hd r (by omega)
        have cx := (unhide HH).2.2.2.1.dig r (by omega)
        rw [(unhide HH).2.1 r (by omega)] at cx
        have cn := (unhide HH).2.2.2.1.nd
        obtain ⟨x, hxe⟩ : ∃ x : Nat, D r = (x : Int) + 48 := ⟨(D r - 48).toNat, by omega⟩
        have hx9 : x ≤ 9 := by omega
        rw [hxe] at cx
        have hr8 : (r : Int) < 800 := by omega
        have hw8z : (wi : Int) < 800 := by omega
        have cw := (unhide HH).2.2.2.1.dig wi (by omega)
        have fw := (unhide HH).2.2.2.1.fr wi (by omega)
        obtain ⟨qq, rm, e1, e2, hq0, hq9, hm0, hmP, HQ⟩ := drop_step k P n hP hk hn0 hnb (unhide HH).1
        have HL := hide (show rs3 k g (r + 1) (wi + 1) (rm * 10 + ((x : Int) + 48) - 48) (put D1 wi (qq + 48)) = rs3 k (nd - r1) r1 0 n1 D by
          rw [← (unhide HH).2.2.1]
          conv => rhs; unfold rs3
          rw [(unhide HH).2.1 r (by omega), hxe, ← (unhide HQ).1, ← (unhide HQ).2, show rm * 10 + ((x : Int) + 48) - 48 = rm * 10 + ((x : Int) + 48 - 48) by omega])
        have HB := hide (show rm * 10 + ((x : Int) + 48) - 48 < 10 * P by omega)
        clear hxe hx
        go_wp2
        go_roundg g
        case measure => omega
        case rel => exact ⟨r + 1, wi + 1, rm * 10 + ((x : Int) + 48) - 48, put D1 wi (qq + 48), by go_num, by go_num, rfl, by omega, by omega, by omega, by omega, by omega, by omega, unhide HB, (fun i hi => by unfold put; rw [if_neg (by omega)]; exact (unhide HH).2.1 i (by omega)), unhide HL, (unhide HH).2.2.2.1.setDig wi (by omega) _, (unhide HH).2.2.2.2.setCell (p := ⟨a, wi, none⟩) (Nat.le_refl _) _⟩
end Go.Proofs.Qxb6606071aDoor.Fl
