import Derived.Test.Qxb6615497aGreatDoorF1
/- a delay below a day: its product with a billion; rounded; as an integer. -/
namespace Go.Proofs.Qxb6615497aGreatDoor
open Go Go.RowKit

abbrev dayW : Nat := 4680673776000565248
abbrev nanoW : Nat := 4741671816366391296

theorem read_day : Ieee.double.read dayW = .number false 5937362789990400 (-36) := by decide
theorem read_nano : Ieee.double.read nanoW = .number false 8388608000000000 (-23) := by decide

/-- a word below a day's. -/
theorem below_day (b : Nat) (hb : b ≤ infW) (h1 : (FloatKind.f64.format.order b dayW == some .gt) = false) (h2 : (FloatKind.f64.format.order b dayW == some .eq) = false) : b < 1040 * binW := by
  have e : FloatKind.f64.format.order b dayW = (Ieee.double.read b).order (.number false 5937362789990400 (-36)) := by
    show (Ieee.double.read b).order (Ieee.double.read dayW) = _
    rw [read_day]
  rw [e] at h1 h2
  rcases Nat.lt_or_ge b (1040 * binW) with h | h
  · exact h
  · exfalso
    by_cases hi : b < infW
    · rw [read_mid b (by unfold binW at *; omega) hi] at h1 h2
      simp only [Ieee.Datum.order] at h1 h2
      have hq : 1040 ≤ b / binW := (Nat.le_div_iff_mul_le (by decide)).2 h
      generalize b / binW = q at *
      generalize b % binW = r at *
      obtain ⟨k, hk⟩ : ∃ k : Nat, q = k + 1040 := ⟨q - 1040, by omega⟩
      subst hk
      have hmin : min (-1074 + ((k + 1040 - 1 : Nat) : Int)) (-36) = -36 := by omega
      rw [hmin] at h1 h2
      have hs : (-1074 + ((k + 1040 - 1 : Nat) : Int) - -36).toNat = k + 1 := by omega
      have hz : ((-36 : Int) - -36).toNat = 0 := by decide
      rw [hs, hz] at h1 h2
      have hx : Ieee.signed false (binW + r) (k + 1) = (((binW + r) <<< (k + 1) : Nat) : Int) := rfl
      have hy : Ieee.signed false 5937362789990400 0 = 5937362789990400 := rfl
      rw [hx, hy] at h1 h2
      have hbig : 9007199254740992 ≤ (binW + r) <<< (k + 1) := by
        rw [Nat.shiftLeft_eq]
        have hp : 2 ≤ 2 ^ (k + 1) := by rw [Nat.pow_succ]; have := Nat.two_pow_pos k; omega
        have := Nat.mul_le_mul (show binW ≤ binW + r by omega) hp
        unfold binW at *
        omega
      generalize (binW + r) <<< (k + 1) = N at *
      have hc : compare ((N : Nat) : Int) 5937362789990400 = .gt := by
        rw [Int.compare_eq_gt]; omega
      rw [hc] at h1
      exact absurd h1 (by decide)
    · obtain rfl : b = infW := by omega
      rw [read_inf] at h1
      exact absurd h1 (by decide)

theorem cut_le (neg : Bool) (N drop : Nat) : Ieee.Toward.even.cut neg N drop ≤ N / 2 ^ min drop (N.log2 + 2) + 1 := by
  unfold Ieee.Toward.cut
  dsimp only
  rw [show 1 <<< min drop (N.log2 + 2) = 2 ^ min drop (N.log2 + 2) by rw [Nat.shiftLeft_eq, Nat.one_mul]]
  generalize (decide (2 ^ min drop (N.log2 + 2) < 2 * (N % 2 ^ min drop (N.log2 + 2))) || 2 ^ min drop (N.log2 + 2) == 2 * (N % 2 ^ min drop (N.log2 + 2)) && N / 2 ^ min drop (N.log2 + 2) % 2 == 1) = b
  cases b <;> simp

theorem log_lt (n : Nat) : n < 2 ^ (n.log2 + 1) := Nat.lt_log2_self

theorem near_bound (mag : Nat) (place : Int) (T : Nat) (h : place + mag.log2 - 52 + 1074 ≤ T) : Ieee.double.nearest false mag place ≤ T * binW + 2 * binW := by
  have e2 : Ieee.double.binade = binW := by decide
  have e3 : Ieee.double.leastPlace = -1074 := by decide
  have e5 : Ieee.double.fractionBits = 52 := rfl
  unfold Ieee.Format.nearest
  split
  · unfold Ieee.Format.word; simp
  · rename_i hm
    dsimp only
    rw [e2, e3, e5]
    unfold Ieee.Format.word
    rw [if_neg (by decide)]
    refine Nat.le_trans (Nat.min_le_left _ _) ?_
    generalize hl : max (place + (mag.log2 : Int) - ((52 : Nat) : Int)) (-1074) = last
    have h1 : place + (mag.log2 : Int) - 52 ≤ last := by omega
    have h2 : last + 1074 ≤ T := by omega
    have hk : Ieee.Toward.even.cut false (mag <<< (place - last).toNat) (last - place).toNat ≤ 2 * binW := by
      refine Nat.le_trans (cut_le _ _ _) ?_
      have hg := log_lt mag
      by_cases hp : place ≤ last
      · rw [show (place - last).toNat = 0 by omega, Nat.shiftLeft_zero]
        by_cases hd : (last - place).toNat ≤ mag.log2 + 2
        · rw [Nat.min_eq_left hd]
          have h3 : mag.log2 ≤ (last - place).toNat + 52 := by omega
          have h4 : mag < 2 ^ ((last - place).toNat + 53) := Nat.lt_of_lt_of_le hg (Nat.pow_le_pow_right (by decide) (by omega))
          have h5 : mag / 2 ^ (last - place).toNat < 2 ^ 53 := by
            rw [Nat.div_lt_iff_lt_mul (Nat.two_pow_pos _), ← Nat.pow_add, Nat.add_comm]
            exact h4
          have e53 : (2 : Nat) ^ 53 = 2 * binW := by decide
          omega
        · rw [Nat.min_eq_right (by omega)]
          have h5 : mag / 2 ^ (mag.log2 + 2) = 0 := Nat.div_eq_of_lt (Nat.lt_of_lt_of_le hg (Nat.pow_le_pow_right (by decide) (by omega)))
          rw [h5]
          decide
      · rw [show (last - place).toNat = 0 by omega, Nat.zero_min, Nat.pow_zero, Nat.div_one, Nat.shiftLeft_eq]
        have h3 : mag.log2 + 1 + (place - last).toNat ≤ 53 := by omega
        have h4 : mag * 2 ^ (place - last).toNat < 2 ^ (mag.log2 + 1) * 2 ^ (place - last).toNat := Nat.mul_lt_mul_of_pos_right hg (Nat.two_pow_pos _)
        rw [← Nat.pow_add] at h4
        have h5 := Nat.pow_le_pow_right (n := 2) (by decide) h3
        have e53 : (2 : Nat) ^ 53 = 2 * binW := by decide
        omega
    have h6 : (last - -1074).toNat * binW ≤ T * binW := Nat.mul_le_mul_right _ (by omega)
    exact Nat.add_le_add h6 hk

theorem mul_num (x y m n : Nat) (i j : Int) (hx : Ieee.double.read x = .number false m i) (hy : Ieee.double.read y = .number false n j) : mulW x y = Ieee.double.nearest false (m * n) (i + j) := by
  unfold mulW Ieee.Format.mul
  rw [hx, hy]
  rfl
theorem mul_read (b m : Nat) (e : Int) (hr : Ieee.double.read b = .number false m e) : mulW b nanoW = Ieee.double.nearest false (m * 8388608000000000) (e + -23) :=
  mul_num b nanoW m 8388608000000000 e (-23) hr read_nano

theorem log_small (m : Nat) (hm : m < 9007199254740992) : (m * 8388608000000000).log2 < 106 := by
  by_cases h0 : m * 8388608000000000 = 0
  · rw [h0]; decide
  · rw [Nat.log2_lt h0]
    omega

theorem nano_key0 (v M : Nat) (e : Int) (hv : v = Ieee.double.nearest false M (e + -23)) (hlog : M.log2 < 106) (he : e ≤ -36) : v ≤ 1070 * binW := by
  have h := near_bound M (e + -23) 1068 (by omega)
  rw [← hv] at h
  exact Nat.le_trans h (by decide)
theorem nano_key (b m : Nat) (e : Int) (hr : Ieee.double.read b = .number false m e) (hm : m < 9007199254740992) (he : e ≤ -36) : mulW b nanoW ≤ 1070 * binW :=
  nano_key0 _ _ e (mul_read b m e hr) (log_small m hm) he

/-- a delay below a day, in nanoseconds, is below two to the 47th. -/
theorem nano_bound (b : Nat) (hb : b < 1040 * binW) : mulW b nanoW ≤ 1070 * binW := by
  have hi : b < infW := by unfold binW infW at *; omega
  by_cases h1 : b < binW
  · exact nano_key b b _ (read_low b h1) (by unfold binW at h1; omega) (by omega)
  · refine nano_key _ _ _ (read_mid b (by omega) hi) ?_ ?_
    · have := Nat.mod_lt b (show 0 < binW by decide); unfold binW at *; omega
    · have : b / binW < 1040 := (Nat.div_lt_iff_lt_mul (by decide)).2 hb
      omega

/-- a word not beyond 1071 binades has a whole number. -/
theorem int_of (r : Nat) (hr : r ≤ 1071 * binW) : ∃ n : Int, floatToIntVal .f64 r .i64 = some n := by
  have key : ∀ m e, Ieee.double.read r = .number false m e → m < 2 * binW → e ≤ 0 → ∃ n : Int, floatToIntVal .f64 r .i64 = some n := by
    intro m e h hm he
    have hd : FloatKind.f64.decode r = .number false m e := h
    have ht : (Ieee.Datum.number false m e).toInt .zero = some (((Ieee.Toward.zero.cut false m (-e).toNat) <<< 0 : Nat) : Int) := by
      change some (Ieee.signed false (Ieee.Toward.zero.cut false (m <<< e.toNat) (-e).toNat) 0) = _
      rw [show e.toNat = 0 by omega, Nat.shiftLeft_zero]
      rfl
    have hc : Ieee.Toward.zero.cut false m (-e).toNat ≤ m := by
      unfold Ieee.Toward.cut
      simp only [Bool.toNat_false, Nat.add_zero]
      exact Nat.div_le_self _ _
    refine ⟨(Ieee.Toward.zero.cut false m (-e).toNat : Nat), ?_⟩
    unfold floatToIntVal
    rw [hd, ht, Nat.shiftLeft_zero]
    dsimp only
    rw [if_pos]
    have e1 : IntKind.i64.min = -9223372036854775808 := by decide
    have e2 : IntKind.i64.max = 9223372036854775807 := by decide
    rw [e1, e2]
    unfold binW at hm
    omega
  by_cases h1 : r < binW
  · exact key r _ (read_low r h1) (by omega) (by omega)
  · refine key _ _ (read_mid r (by omega) (by unfold binW infW at *; omega)) ?_ ?_
    · have := Nat.mod_lt r (show 0 < binW by decide); omega
    · have : r / binW ≤ 1071 := Nat.div_le_of_le_mul (by rw [Nat.mul_comm]; exact hr)
      omega
end Go.Proofs.Qxb6615497aGreatDoor
