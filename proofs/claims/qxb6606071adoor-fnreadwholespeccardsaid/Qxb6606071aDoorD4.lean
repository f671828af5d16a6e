import Derived.Test.Qxb6606071aDoorD3
/- leftShift: what its loops reckon. -/
namespace Go.Proofs.Qxb6606071aDoor.Fl
open Go.RowKit

/-- the number that the first n digits write. -/
def V (D : Nat → Int) : Nat → Int
  | 0 => 0
  | n + 1 => V D n * 10 + (D n - 48)

theorem V_congr {D E : Nat → Int} : ∀ n, (∀ i, i < n → D i = E i) → V D n = V E n
  | 0, _ => rfl
  | n + 1, h => by
    unfold V
    rw [V_congr n (fun i hi => h i (by omega)), h n (by omega)]

theorem V_nonneg {D : Nat → Int} : ∀ n, (∀ i, i < n → 48 ≤ D i) → 0 ≤ V D n
  | 0, _ => Int.le_refl _
  | n + 1, h => by
    have := V_nonneg n (fun i hi => h i (by omega))
    have := h n (by omega)
    unfold V
    omega

theorem V_lt {D : Nat → Int} : ∀ n, (∀ i, i < n → 48 ≤ D i ∧ D i ≤ 57) → V D n < 10 ^ n
  | 0, _ => by show (0 : Int) < 1; decide
  | n + 1, h => by
    have h1 := V_lt n (fun i hi => h i (by omega))
    have h2 := h n (by omega)
    have e : (10 : Int) ^ (n + 1) = 10 ^ n * 10 := Int.pow_succ 10 n
    unfold V
    omega

theorem V_ge {D : Nat → Int} : ∀ n, (∀ i, i < n + 1 → 48 ≤ D i) → (D 0 - 48) * 10 ^ n ≤ V D (n + 1)
  | 0, _ => by unfold V; show (D 0 - 48) * 1 ≤ V D 0 * 10 + (D 0 - 48); unfold V; omega
  | n + 1, h => by
    have h1 := V_ge n (fun i hi => h i (by omega))
    have h2 := h (n + 1) (by omega)
    have e : (10 : Int) ^ (n + 1) = 10 ^ n * 10 := Int.pow_succ 10 n
    have e2 : (D 0 - 48) * 10 ^ (n + 1) = (D 0 - 48) * 10 ^ n * 10 := by rw [e, Int.mul_assoc]
    conv => rhs; unfold V
    omega

theorem emitD_low (D : Nat → Int) (w : Nat) (m : Int) (i : Nat) (h : i < w) : emitD D w m i = D i := by
  unfold emitD
  split
  · unfold put; rw [if_neg (by omega)]
  · rfl
theorem emitD_high (D : Nat → Int) (w : Nat) (m : Int) (i : Nat) (h : w < i) : emitD D w m i = D i := by
  unfold emitD
  split
  · unfold put; rw [if_neg (by omega)]
  · rfl
theorem emitD_at (D : Nat → Int) (w : Nat) (m : Int) (h : w < 800) : emitD D w m w = m + 48 := by
  unfold emitD
  rw [if_pos h]; unfold put; rw [if_pos rfl]

/-- the carry behind the first loop. -/
theorem ls1_carry (k : Nat) : ∀ (r w : Nat) (n : Int) (D : Nat → Int) (tr : Bool), r ≤ w → (ls1 k r w n D tr).2.1 = (n + V D r * 2 ^ k) / 10 ^ r
  | 0, w, n, D, tr, _ => by
    show n = (n + 0 * 2 ^ k) / 1
    simp
  | r + 1, w, n, D, tr, h => by
    have ih := ls1_carry k r (w - 1) ((n + (D r - 48) * 2 ^ k) / 10) (emitD D (w - 1) ((n + (D r - 48) * 2 ^ k) % 10)) (emitT tr (w - 1) ((n + (D r - 48) * 2 ^ k) % 10)) (by omega)
    show (ls1 k r _ _ _ _).2.1 = _
    rw [ih, V_congr r (fun i hi => emitD_low D (w - 1) _ i (by omega))]
    have e : (10 : Int) ^ (r + 1) = 10 * 10 ^ r := by rw [Int.pow_succ]; exact Int.mul_comm _ _
    have e2 : (n + (D r - 48) * 2 ^ k) / 10 + V D r * 2 ^ k = (n + V D (r + 1) * 2 ^ k) / 10 := by
      conv => rhs; unfold V
      have : n + (V D r * 10 + (D r - 48)) * 2 ^ k = (n + (D r - 48) * 2 ^ k) + V D r * 2 ^ k * 10 := by
        rw [Int.add_mul, Int.mul_right_comm]; omega
      rw [this, Int.add_mul_ediv_right _ _ (by decide)]
    rw [e2, e, Int.ediv_ediv_of_nonneg (by decide)]

/-- the first loop writes digits from its last place on and leaves what lies below. -/
theorem ls1_digits (k : Nat) : ∀ (r d : Nat) (n : Int) (D : Nat → Int) (tr : Bool) (i : Nat), d ≤ i → i < r + d → i < 800 → 48 ≤ (ls1 k r (r + d) n D tr).2.2.1 i ∧ (ls1 k r (r + d) n D tr).2.2.1 i ≤ 57
  | 0, d, n, D, tr, i, h1, h2, _ => by omega
  | r + 1, d, n, D, tr, i, h1, h2, h3 => by
    show 48 ≤ (ls1 k r (r + 1 + d - 1) _ _ _).2.2.1 i ∧ (ls1 k r (r + 1 + d - 1) _ _ _).2.2.1 i ≤ 57
    rw [show r + 1 + d - 1 = r + d by omega]
    by_cases hi : i < r + d
    · exact ls1_digits k r d _ _ _ i h1 hi h3
    · obtain rfl : i = r + d := by omega
      rw [ls1_high k r d _ _ _ (r + d) (by omega), emitD_at _ _ _ h3]
      have := Int.emod_nonneg (n + (D r - 48) * 2 ^ k) (by decide : (10 : Int) ≠ 0)
      have := Int.emod_lt_of_pos (n + (D r - 48) * 2 ^ k) (by decide : (0 : Int) < 10)
      omega
where
  ls1_high (k : Nat) : ∀ (r d : Nat) (n : Int) (D : Nat → Int) (tr : Bool) (i : Nat), r + d ≤ i → (ls1 k r (r + d) n D tr).2.2.1 i = D i
  | 0, _, _, _, _, _, _ => rfl
  | r + 1, d, n, D, tr, i, h => by
    show (ls1 k r (r + 1 + d - 1) _ _ _).2.2.1 i = D i
    rw [show r + 1 + d - 1 = r + d by omega, ls1_high k r d _ _ _ i (by omega)]
    exact emitD_high _ _ _ _ (by omega)

theorem ten_pos (n : Nat) : (0 : Int) < 10 ^ n := by
  have := Nat.pow_pos (n := n) (by decide : 0 < 10)
  exact_mod_cast this

theorem ls2_zero : ∀ (g w : Nat) (D : Nat → Int) (tr : Bool), ls2 g w 0 D tr = (w, D, tr)
  | 0, _, _, _ => rfl
  | g + 1, w, D, tr => by unfold ls2; rw [if_pos rfl]

theorem ls2_full : ∀ (g : Nat) (n : Int) (D : Nat → Int) (tr : Bool), 10 ^ g ≤ n → n < 10 ^ (g + 1) → g < 800 →
    (ls2 (g + 1) (g + 1) n D tr).2.1 0 = n / 10 ^ g + 48 ∧ (∀ i, g + 1 ≤ i → (ls2 (g + 1) (g + 1) n D tr).2.1 i = D i) ∧ (∀ i, i < g + 1 → 48 ≤ (ls2 (g + 1) (g + 1) n D tr).2.1 i ∧ (ls2 (g + 1) (g + 1) n D tr).2.1 i ≤ 57)
  | 0, n, D, tr, h1, h2, _ => by
    have h1' : 1 ≤ n := h1
    have h2' : n < 10 := h2
    have e : ls2 1 1 n D tr = (0, emitD D 0 (n % 10), emitT tr 0 (n % 10)) := by
      unfold ls2; rw [if_neg (by omega)]; rfl
    rw [e]
    refine ⟨?_, fun i hi => emitD_high D 0 (n % 10) i (by omega), fun i hi => ?_⟩
    · show emitD D 0 (n % 10) 0 = n / 1 + 48
      rw [emitD_at _ _ _ (by decide)]
      omega
    · obtain rfl : i = 0 := by omega
      show 48 ≤ emitD D 0 (n % 10) 0 ∧ emitD D 0 (n % 10) 0 ≤ 57
      rw [emitD_at _ _ _ (by decide)]
      omega
  | g + 1, n, D, tr, h1, h2, h3 => by
    have e1 : (10 : Int) ^ (g + 1) = 10 ^ g * 10 := Int.pow_succ 10 g
    have e2 : (10 : Int) ^ (g + 1 + 1) = 10 ^ (g + 1) * 10 := Int.pow_succ 10 (g + 1)
    have hp := ten_pos g
    have e : ls2 (g + 1 + 1) (g + 1 + 1) n D tr = ls2 (g + 1) (g + 1) (n / 10) (emitD D (g + 1) (n % 10)) (emitT tr (g + 1) (n % 10)) := by
      conv => lhs; unfold ls2
      rw [if_neg (by omega)]; rfl
    obtain ⟨i1, i2, i3⟩ := ls2_full g (n / 10) (emitD D (g + 1) (n % 10)) (emitT tr (g + 1) (n % 10)) (by omega) (by omega) (by omega)
    rw [e]
    refine ⟨?_, fun i hi => ?_, fun i hi => ?_⟩
    · rw [i1, Int.ediv_ediv_of_nonneg (by decide), e1, Int.mul_comm 10]
    · rw [i2 i (by omega)]; exact emitD_high _ _ _ _ (by omega)
    · by_cases hg : i < g + 1
      · exact i3 i hg
      · obtain rfl : i = g + 1 := by omega
        rw [i2 (g + 1) (by omega), emitD_at _ _ _ h3]
        omega

theorem ls1_lead (k : Nat) : ∀ (r : Nat) (n : Int) (D : Nat → Int) (tr : Bool), 0 ≤ n → (∀ i, i < r + 1 → 48 ≤ D i) → (ls1 k (r + 1) (r + 1) n D tr).2.1 = 0 → (D 0 - 48) * 2 ^ k ≤ (ls1 k (r + 1) (r + 1) n D tr).2.2.1 0 - 48
  | 0, n, D, tr, h0, hd, hc => by
    have hc' : (n + (D 0 - 48) * 2 ^ k) / 10 = 0 := hc
    have hx : 0 ≤ (D 0 - 48) * 2 ^ k := Int.mul_nonneg (by have := hd 0 (by omega); omega) (by have := Nat.two_pow_pos k; exact_mod_cast Nat.le_of_lt this)
    show (D 0 - 48) * 2 ^ k ≤ emitD D 0 ((n + (D 0 - 48) * 2 ^ k) % 10) 0 - 48
    rw [emitD_at _ _ _ (by decide)]
    omega
  | r + 1, n, D, tr, h0, hd, hc => by
    have hx : 0 ≤ (D (r + 1) - 48) * 2 ^ k := Int.mul_nonneg (by have := hd (r + 1) (by omega); omega) (by have := Nat.two_pow_pos k; exact_mod_cast Nat.le_of_lt this)
    have ih := ls1_lead k r ((n + (D (r + 1) - 48) * 2 ^ k) / 10) (emitD D (r + 1) ((n + (D (r + 1) - 48) * 2 ^ k) % 10)) (emitT tr (r + 1) ((n + (D (r + 1) - 48) * 2 ^ k) % 10)) (by omega)
      (fun i hi => by rw [emitD_low _ _ _ _ (by omega)]; exact hd i (by omega)) hc
    rw [emitD_low _ _ _ 0 (by omega)] at ih
    exact ih

theorem V_up {D : Nat → Int} (i : Nat) : ∀ m, (∀ j, j < i + m → 48 ≤ D j ∧ D j ≤ 57) → V D i * 10 ^ m ≤ V D (i + m) ∧ V D (i + m) + 1 ≤ (V D i + 1) * 10 ^ m
  | 0, _ => by simp
  | m + 1, h => by
    obtain ⟨h1, h2⟩ := V_up i m (fun j hj => h j (by omega))
    have h3 := h (i + m) (by omega)
    have e : (10 : Int) ^ (m + 1) = 10 ^ m * 10 := Int.pow_succ 10 m
    rw [e, ← Int.mul_assoc, ← Int.mul_assoc]
    have ev : V D (i + (m + 1)) = V D (i + m) * 10 + (D (i + m) - 48) := rfl
    rw [ev]
    omega

/-- a text's bytes as a digit row. -/
def rowOf (s : ByteArray) : Nat → Int := fun j => if h : j < s.size then ((s[j]'h).toNat : Int) else 48

theorem pow_add10 (a b : Nat) : (10 : Int) ^ (a + b) = 10 ^ a * 10 ^ b := Int.pow_add 10 a b

theorem prefLess_spec (D : Nat → Int) (nd : Nat) (cut : ByteArray) (hD : ∀ i, i < nd → 48 ≤ D i ∧ D i ≤ 57) (hE : ∀ i, i < cut.size → 48 ≤ rowOf cut i ∧ rowOf cut i ≤ 57) (hl : 49 ≤ rowOf cut (cut.size - 1)) :
    ∀ (f i : Nat), i + f = cut.size → i ≤ nd → V D i = V (rowOf cut) i →
      (prefLess D nd cut f i = true → V D nd * 10 ^ cut.size < V (rowOf cut) cut.size * 10 ^ nd) ∧ (prefLess D nd cut f i = false → V (rowOf cut) cut.size * 10 ^ nd ≤ V D nd * 10 ^ cut.size)
  | 0, i, hi, hn, hv => by
    refine ⟨fun h => (by simp [prefLess] at h), fun _ => ?_⟩
    obtain rfl : i = cut.size := by omega
    obtain ⟨m, rfl⟩ : ∃ m, nd = cut.size + m := ⟨nd - cut.size, by omega⟩
    have h1 := (V_up (D := D) cut.size m hD).1
    rw [pow_add10, Int.mul_comm (10 ^ cut.size) (10 ^ m), ← Int.mul_assoc, ← hv]
    exact Int.mul_le_mul_of_nonneg_right h1 (Int.le_of_lt (ten_pos _))
  | f + 1, i, hi, hn, hv => by
    have hlt : i < cut.size := by omega
    have hrow : rowOf cut i = ((cut[i]'hlt).toNat : Int) := by unfold rowOf; rw [dif_pos hlt]
    unfold prefLess
    rw [dif_pos hlt, ← hrow]
    obtain ⟨l, hl2⟩ : ∃ l, cut.size = i + 1 + l := ⟨cut.size - (i + 1), by omega⟩
    by_cases h1 : nd ≤ i
    · obtain rfl : nd = i := by omega
      rw [if_pos h1]
      refine ⟨fun _ => ?_, fun h => by cases h⟩
      -- the row goes on, and its last digit is no zero
      have hs : V (rowOf cut) nd * 10 ^ (l + 1) + 1 ≤ V (rowOf cut) cut.size := by
        have hu := (V_up (D := rowOf cut) nd l (fun j hj => hE j (by omega))).1
        have e : cut.size = nd + l + 1 := by omega
        have ev : V (rowOf cut) cut.size = V (rowOf cut) (nd + l) * 10 + (rowOf cut (nd + l) - 48) := by rw [e]; rfl
        have hl' : 49 ≤ rowOf cut (nd + l) := by have : cut.size - 1 = nd + l := by omega
                                                 rw [← this]; exact hl
        have ep : (10 : Int) ^ (l + 1) = 10 ^ l * 10 := Int.pow_succ 10 l
        rw [ev, ep, ← Int.mul_assoc]
        omega
      have e : cut.size = (l + 1) + nd := by omega
      have hp := ten_pos nd
      have e10 : (10 : Int) ^ cut.size = 10 ^ (l + 1) * 10 ^ nd := by rw [← pow_add10]; exact congrArg _ e
      rw [e10, hv, ← Int.mul_assoc]
      exact Int.mul_lt_mul_of_pos_right (by omega) hp
    · rw [if_neg h1]
      obtain ⟨m, rfl⟩ : ∃ m, nd = i + 1 + m := ⟨nd - (i + 1), by omega⟩
      have hd := hD i (by omega)
      have he := hE i hlt
      by_cases h2 : D i = rowOf cut i
      · rw [if_pos h2]
        exact prefLess_spec D (i + 1 + m) cut hD hE hl f (i + 1) (by omega) (by omega) (by show V D i * 10 + (D i - 48) = V (rowOf cut) i * 10 + (rowOf cut i - 48); rw [hv, h2])
      · rw [if_neg h2]
        have uD := V_up (D := D) (i + 1) m hD
        have uE := V_up (D := rowOf cut) (i + 1) l (fun j hj => hE j (by omega))
        rw [← hl2] at uE
        have vD : V D (i + 1) = V D i * 10 + (D i - 48) := rfl
        have vE : V (rowOf cut) (i + 1) = V (rowOf cut) i * 10 + (rowOf cut i - 48) := rfl
        have pm := ten_pos m
        have pl := ten_pos l
        have e1 : (10 : Int) ^ cut.size = 10 ^ (i + 1) * 10 ^ l := by rw [← pow_add10]; exact congrArg _ hl2
        have e2 : (10 : Int) ^ (i + 1 + m) = 10 ^ (i + 1) * 10 ^ m := pow_add10 _ _
        have pi := ten_pos (i + 1)
        refine ⟨fun h => ?_, fun h => ?_⟩
        · have hlt2 : D i < rowOf cut i := of_decide_eq_true h
          -- V D nd * 10^l < E(i+1) * 10^m * 10^l <= V E L * 10^m
          have a1 : V D (i + 1 + m) < V (rowOf cut) (i + 1) * 10 ^ m := by
            have : (V D (i + 1) + 1) * 10 ^ m ≤ V (rowOf cut) (i + 1) * 10 ^ m := Int.mul_le_mul_of_nonneg_right (by omega) (Int.le_of_lt pm)
            omega
          have a2 : V D (i + 1 + m) * 10 ^ l < V (rowOf cut) (i + 1) * 10 ^ m * 10 ^ l := Int.mul_lt_mul_of_pos_right a1 pl
          have a3 : V (rowOf cut) (i + 1) * 10 ^ l * 10 ^ m ≤ V (rowOf cut) cut.size * 10 ^ m := Int.mul_le_mul_of_nonneg_right uE.1 (Int.le_of_lt pm)
          have a4 : V (rowOf cut) (i + 1) * 10 ^ m * 10 ^ l = V (rowOf cut) (i + 1) * 10 ^ l * 10 ^ m := Int.mul_right_comm _ _ _
          have a5 : V D (i + 1 + m) * 10 ^ l < V (rowOf cut) cut.size * 10 ^ m := by omega
          have a6 := Int.mul_lt_mul_of_pos_right a5 pi
          rw [e1, e2, Int.mul_comm (10 ^ (i + 1)) (10 ^ l), Int.mul_comm (10 ^ (i + 1)) (10 ^ m), ← Int.mul_assoc, ← Int.mul_assoc]
          exact a6
        · have hlt2 : rowOf cut i < D i := by
            have := of_decide_eq_false h
            omega
          have a1 : V (rowOf cut) cut.size ≤ V D (i + 1) * 10 ^ l := by
            have : (V (rowOf cut) (i + 1) + 1) * 10 ^ l ≤ V D (i + 1) * 10 ^ l := Int.mul_le_mul_of_nonneg_right (by omega) (Int.le_of_lt pl)
            omega
          have a2 : V (rowOf cut) cut.size * 10 ^ m ≤ V D (i + 1) * 10 ^ l * 10 ^ m := Int.mul_le_mul_of_nonneg_right a1 (Int.le_of_lt pm)
          have a3 : V D (i + 1) * 10 ^ m * 10 ^ l ≤ V D (i + 1 + m) * 10 ^ l := Int.mul_le_mul_of_nonneg_right uD.1 (Int.le_of_lt pl)
          have a4 : V D (i + 1) * 10 ^ l * 10 ^ m = V D (i + 1) * 10 ^ m * 10 ^ l := Int.mul_right_comm _ _ _
          have a5 : V (rowOf cut) cut.size * 10 ^ m ≤ V D (i + 1 + m) * 10 ^ l := by omega
          have a6 := Int.mul_le_mul_of_nonneg_right a5 (Int.le_of_lt pi)
          rw [e1, e2, Int.mul_comm (10 ^ (i + 1)) (10 ^ l), Int.mul_comm (10 ^ (i + 1)) (10 ^ m), ← Int.mul_assoc, ← Int.mul_assoc]
          exact a6

/-- what a row of the leftcheats table says: the cutoff is five to the k, the new digits are its complement. -/
structure CheatOk (k dl : Nat) (cut : ByteArray) : Prop where
  val : V (rowOf cut) cut.size = 5 ^ k
  dig : ∀ i, i < cut.size → 48 ≤ rowOf cut i ∧ rowOf cut i ≤ 57
  last : 49 ≤ rowOf cut (cut.size - 1)
  lo : (10 : Int) ^ (cut.size - 1) ≤ 5 ^ k
  hi : (5 : Int) ^ k < 10 ^ cut.size
  len : dl + cut.size = k + 1
  one : 1 ≤ cut.size
  dl1 : 1 ≤ dl
  dl20 : dl ≤ 20

theorem ten_five_two (k : Nat) : (10 : Int) ^ k = 5 ^ k * 2 ^ k := by
  induction k with
  | zero => rfl
  | succ n ih =>
    rw [Int.pow_succ, Int.pow_succ, Int.pow_succ, ih]
    rw [Int.mul_assoc, Int.mul_assoc, Int.mul_comm 5 (2 ^ n * 2), Int.mul_assoc (2 ^ n) 2 5]
    rfl

theorem two_pos' (k : Nat) : (0 : Int) < 2 ^ k := by
  have := Nat.two_pow_pos k
  exact_mod_cast this

theorem cancel_le {a b c : Int} (hc : 0 < c) (h : a * c ≤ b * c) : a ≤ b := Int.le_of_mul_le_mul_right h hc
theorem cancel_lt {a b c : Int} (hc : 0 < c) (h : a * c < b * c) : a < b := Int.lt_of_mul_lt_mul_right h (Int.le_of_lt hc)

/-- the product lies between the two powers of ten. -/
theorem left_bounds {k dl : Nat} {cut : ByteArray} (hC : CheatOk k dl cut) {D : Nat → Int} {nd : Nat} (hn : 1 ≤ nd) (hD : ∀ i, i < nd → 48 ≤ D i ∧ D i ≤ 57) (h0 : 49 ≤ D 0) (d : Nat) (hd : (if prefLess D nd cut cut.size 0 = true then dl - 1 else dl) = d) :
    V D nd * 2 ^ k < 10 ^ (nd + d) ∧ 10 ^ (nd + d) ≤ V D nd * 2 ^ k * 10 := by
  have hspec := prefLess_spec D nd cut hD hC.dig hC.last cut.size 0 (by omega) (by omega) rfl
  have p2 := two_pos' k
  have pL := ten_pos cut.size
  have hlen := hC.len
  have hone := hC.one
  have hdl1 := hC.dl1
  obtain ⟨n1, rfl⟩ : ∃ n1, nd = n1 + 1 := ⟨nd - 1, by omega⟩
  have hge := V_ge (D := D) n1 (fun i hi => (hD i hi).1)
  have hlt := V_lt (D := D) (n1 + 1) hD
  have pn1 := ten_pos n1
  have hV1 : 10 ^ n1 ≤ V D (n1 + 1) := by
    have : 1 * 10 ^ n1 ≤ (D 0 - 48) * 10 ^ n1 := Int.mul_le_mul_of_nonneg_right (by omega) (Int.le_of_lt pn1)
    omega
  cases hp : prefLess D (n1 + 1) cut cut.size 0
  · rw [hp] at hd
    have hd' : dl = d := by simpa using hd
    subst hd'
    have h1 := hspec.2 hp
    rw [hC.val] at h1
    refine ⟨?_, ?_⟩
    · -- 2^k <= 10^dl
      have hk : k = (cut.size - 1) + dl := by omega
      have h2 : (2 : Int) ^ k ≤ 10 ^ dl := by
        have pl1 := ten_pos (cut.size - 1)
        refine cancel_le pl1 ?_
        have e : (10 : Int) ^ dl * 10 ^ (cut.size - 1) = 5 ^ k * 2 ^ k := by
          rw [← ten_five_two, Int.mul_comm, ← pow_add10]; exact congrArg _ hk.symm
        rw [e, Int.mul_comm (2 ^ k)]
        exact Int.mul_le_mul_of_nonneg_right hC.lo (Int.le_of_lt p2)
      have h3 : V D (n1 + 1) * 2 ^ k < 10 ^ (n1 + 1) * 2 ^ k := Int.mul_lt_mul_of_pos_right hlt p2
      have h4 : (10 : Int) ^ (n1 + 1) * 2 ^ k ≤ 10 ^ (n1 + 1) * 10 ^ dl := Int.mul_le_mul_of_nonneg_left h2 (Int.le_of_lt (ten_pos _))
      rw [pow_add10]
      omega
    · -- 10^(nd+dl-1) <= V 2^k
      refine cancel_le pL ?_
      have h2 := Int.mul_le_mul_of_nonneg_right h1 (Int.le_of_lt p2)
      have e1 : (5 : Int) ^ k * 10 ^ (n1 + 1) * 2 ^ k = 10 ^ (k + (n1 + 1)) := by
        rw [Int.mul_right_comm, ← ten_five_two, ← pow_add10]
      have e2 : V D (n1 + 1) * 10 ^ cut.size * 2 ^ k = V D (n1 + 1) * 2 ^ k * 10 ^ cut.size := Int.mul_right_comm _ _ _
      rw [e1, e2] at h2
      have e3 : (10 : Int) ^ (n1 + 1 + dl) * 10 ^ cut.size = 10 ^ (k + (n1 + 1)) * 10 := by
        rw [← pow_add10, ← Int.pow_succ]; exact congrArg _ (by omega)
      rw [e3, Int.mul_right_comm _ 10 _]
      exact Int.mul_le_mul_of_nonneg_right h2 (by decide)
  · rw [hp] at hd
    have hd' : dl - 1 = d := by simpa using hd
    have hdk : d + cut.size = k := by omega
    have h1 := hspec.1 hp
    rw [hC.val] at h1
    refine ⟨?_, ?_⟩
    · refine cancel_lt pL ?_
      have h2 := Int.mul_lt_mul_of_pos_right h1 p2
      have e1 : (5 : Int) ^ k * 10 ^ (n1 + 1) * 2 ^ k = 10 ^ (k + (n1 + 1)) := by
        rw [Int.mul_right_comm, ← ten_five_two, ← pow_add10]
      have e2 : V D (n1 + 1) * 10 ^ cut.size * 2 ^ k = V D (n1 + 1) * 2 ^ k * 10 ^ cut.size := Int.mul_right_comm _ _ _
      rw [e1, e2] at h2
      have e3 : (10 : Int) ^ (n1 + 1 + d) * 10 ^ cut.size = 10 ^ (k + (n1 + 1)) := by
        rw [← pow_add10]; exact congrArg _ (by omega)
      rw [e3]
      exact h2
    · -- 10^d <= 2^k
      have h2 : (10 : Int) ^ d ≤ 2 ^ k := by
        refine cancel_le pL ?_
        have e : (10 : Int) ^ d * 10 ^ cut.size = 5 ^ k * 2 ^ k := by
          rw [← ten_five_two, ← pow_add10]; exact congrArg _ hdk
        rw [e, Int.mul_comm (2 ^ k)]
        exact Int.mul_le_mul_of_nonneg_right (Int.le_of_lt hC.hi) (Int.le_of_lt p2)
      have h3 : 10 ^ n1 * 10 ^ d ≤ V D (n1 + 1) * 2 ^ k := by
        have a1 : (10 : Int) ^ n1 * 10 ^ d ≤ 10 ^ n1 * 2 ^ k := Int.mul_le_mul_of_nonneg_left h2 (Int.le_of_lt pn1)
        have a2 : 10 ^ n1 * 2 ^ k ≤ V D (n1 + 1) * 2 ^ k := Int.mul_le_mul_of_nonneg_right hV1 (Int.le_of_lt p2)
        omega
      have e : (10 : Int) ^ (n1 + 1 + d) = 10 ^ n1 * 10 ^ d * 10 := by
        rw [← pow_add10, ← Int.pow_succ]; exact congrArg _ (by omega)
      rw [e]
      exact Int.mul_le_mul_of_nonneg_right h3 (by decide)

theorem trimN_le (D : Nat → Int) : ∀ n, trimN D n ≤ n
  | 0 => Nat.le_refl _
  | n + 1 => by
    unfold trimN
    have := trimN_le D n
    split <;> omega
theorem trimN_pos (D : Nat → Int) (h0 : D 0 ≠ 48) : ∀ n, 1 ≤ n → 1 ≤ trimN D n
  | n + 1, _ => by
    unfold trimN
    by_cases h : D n = 48
    · rw [if_pos h]
      cases n with
      | zero => exact absurd h h0
      | succ m => exact trimN_pos D h0 (m + 1) (by omega)
    · rw [if_neg h]; omega

/-- leftShift keeps a decimal in order, and lifts its point or its first digit. -/
theorem left_ok {k dl : Nat} {cut : ByteArray} (hC : CheatOk k dl cut) (hk : 1 ≤ k) {D : Nat → Int} {nd : Nat} (hn : 1 ≤ nd) (hn8 : nd ≤ 800) (hD : ∀ i, i < nd → 48 ≤ D i ∧ D i ≤ 57) (h0 : 49 ≤ D 0) (dp : Int) (tr : Bool) (d : Nat) (hd : (if prefLess D nd cut cut.size 0 = true then dl - 1 else dl) = d) :
    (ls1 k nd (nd + d) 0 D tr).2.1 < 10 ^ d ∧ d ≤ 20 ∧ 1 ≤ (lsRes k d D nd dp tr).2.1 ∧ (lsRes k d D nd dp tr).2.1 ≤ 800 ∧ (∀ i, i < (lsRes k d D nd dp tr).2.1 → 48 ≤ (lsRes k d D nd dp tr).1 i ∧ (lsRes k d D nd dp tr).1 i ≤ 57) ∧
    49 ≤ (lsRes k d D nd dp tr).1 0 ∧ (lsRes k d D nd dp tr).2.2.1 = dp + d ∧ (d = 0 → 2 * (D 0 - 48) ≤ (lsRes k d D nd dp tr).1 0 - 48) := by
  have hb := left_bounds hC hn hD h0 d hd
  have hcar := ls1_carry k nd (nd + d) 0 D tr (by omega)
  rw [Int.zero_add] at hcar
  have hd20 : d ≤ 20 := by have := hC.dl20; rw [← hd]; split <;> omega
  have pn := ten_pos nd
  have hc1 : (ls1 k nd (nd + d) 0 D tr).2.1 < 10 ^ d := by
    rw [hcar]
    refine Int.ediv_lt_of_lt_mul pn ?_
    have e : (10 : Int) ^ d * 10 ^ nd = 10 ^ (nd + d) := by rw [Int.mul_comm, ← pow_add10]
    rw [e]
    exact hb.1
  -- the bytes behind both loops
  have key : (∀ i, i < min (nd + d) 800 → 48 ≤ (lsRes k d D nd dp tr).1 i ∧ (lsRes k d D nd dp tr).1 i ≤ 57) ∧ 49 ≤ (lsRes k d D nd dp tr).1 0 ∧ (d = 0 → 2 * (D 0 - 48) ≤ (lsRes k d D nd dp tr).1 0 - 48) := by
    have hl1 := fun i => ls1_digits k nd d 0 D tr i
    show (∀ i, i < min (nd + d) 800 → 48 ≤ (ls2 d d (ls1 k nd (nd + d) 0 D tr).2.1 (ls1 k nd (nd + d) 0 D tr).2.2.1 (ls1 k nd (nd + d) 0 D tr).2.2.2).2.1 i ∧ (ls2 d d (ls1 k nd (nd + d) 0 D tr).2.1 (ls1 k nd (nd + d) 0 D tr).2.2.1 (ls1 k nd (nd + d) 0 D tr).2.2.2).2.1 i ≤ 57) ∧
      49 ≤ (ls2 d d (ls1 k nd (nd + d) 0 D tr).2.1 (ls1 k nd (nd + d) 0 D tr).2.2.1 (ls1 k nd (nd + d) 0 D tr).2.2.2).2.1 0 ∧ (d = 0 → 2 * (D 0 - 48) ≤ (ls2 d d (ls1 k nd (nd + d) 0 D tr).2.1 (ls1 k nd (nd + d) 0 D tr).2.2.1 (ls1 k nd (nd + d) 0 D tr).2.2.2).2.1 0 - 48)
    cases d with
    | zero =>
      have hz : (ls1 k nd (nd + 0) 0 D tr).2.1 = 0 := by
        have h1 : (ls1 k nd (nd + 0) 0 D tr).2.1 < 1 := hc1
        have h2 : 0 ≤ (ls1 k nd (nd + 0) 0 D tr).2.1 := by
          rw [hcar]
          exact Int.ediv_nonneg (Int.mul_nonneg (V_nonneg nd (fun i hi => (hD i hi).1)) (Int.le_of_lt (two_pos' k))) (Int.le_of_lt pn)
        omega
      obtain ⟨n1, rfl⟩ : ∃ n1, nd = n1 + 1 := ⟨nd - 1, by omega⟩
      have hlead := ls1_lead k n1 0 D tr (Int.le_refl _) (fun i hi => (hD i hi).1) hz
      have h2 : (2 : Int) ≤ 2 ^ k := by
        have := Nat.pow_le_pow_right (n := 2) (by decide) hk
        exact_mod_cast this
      have h3 : (D 0 - 48) * 2 ≤ (D 0 - 48) * 2 ^ k := Int.mul_le_mul_of_nonneg_left h2 (by omega)
      have hl : 2 * (D 0 - 48) ≤ (ls1 k (n1 + 1) (n1 + 1 + 0) 0 D tr).2.2.1 0 - 48 := by
        have hlead' : (D 0 - 48) * 2 ^ k ≤ (ls1 k (n1 + 1) (n1 + 1 + 0) 0 D tr).2.2.1 0 - 48 := hlead
        omega
      refine ⟨fun i hi => ?_, ?_, fun _ => hl⟩
      · exact hl1 i (by omega) (by omega) (by omega)
      · show 49 ≤ (ls1 k (n1 + 1) (n1 + 1 + 0) 0 D tr).2.2.1 0
        omega
    | succ g =>
      have hlow : 10 ^ g ≤ (ls1 k nd (nd + (g + 1)) 0 D tr).2.1 := by
        rw [hcar]
        refine Int.le_ediv_of_mul_le pn ?_
        have e : (10 : Int) ^ (nd + (g + 1)) = 10 ^ g * 10 ^ nd * 10 := by
          rw [← pow_add10, ← Int.pow_succ]; exact congrArg _ (by omega)
        have h2 := hb.2
        rw [e] at h2
        exact Int.le_of_mul_le_mul_right h2 (by decide)
      obtain ⟨f1, f2, f3⟩ := ls2_full g _ (ls1 k nd (nd + (g + 1)) 0 D tr).2.2.1 (ls1 k nd (nd + (g + 1)) 0 D tr).2.2.2 hlow hc1 (by omega)
      refine ⟨fun i hi => ?_, ?_, fun h => by omega⟩
      · by_cases hg : i < g + 1
        · exact f3 i hg
        · rw [f2 i (by omega)]
          exact hl1 i (by omega) (by omega) (by omega)
      · rw [f1]
        have : 1 ≤ (ls1 k nd (nd + (g + 1)) 0 D tr).2.1 / 10 ^ g := Int.le_ediv_of_mul_le (ten_pos g) (by omega)
        omega
  have ht1 : 1 ≤ (lsRes k d D nd dp tr).2.1 := trimN_pos _ (by have := key.2.1; show (lsRes k d D nd dp tr).1 0 ≠ 48; omega) _ (by omega)
  have ht2 : (lsRes k d D nd dp tr).2.1 ≤ min (nd + d) 800 := trimN_le _ _
  refine ⟨hc1, hd20, ht1, by omega, fun i hi => key.1 i (by omega), key.2.1, ?_, key.2.2⟩
  show trimDp _ _ _ = _
  unfold trimDp
  rw [if_neg]
  intro h
  have : (lsRes k d D nd dp tr).2.1 = 0 := h
  omega

end Go.Proofs.Qxb6606071aDoor.Fl
