import Derived.Test.Qxb6606071aDoorW4
import Derived.Lib.ParseIntBCases
/- strconv.ParseInt at a sign and digits; the order of floats at 2^63. -/
namespace Go.Proofs.Qxb6606071aDoor.Fl
open Go Go.RowKit

theorem uintM_at : ∀ (l : List UInt8) (acc : Nat), allDig l → Lib.parseUintM 18446744073709551615 acc l = if dv l acc ≤ 18446744073709551615 ∨ l = [] then .ok (dv l acc) else .range
  | [], acc, _ => by rw [if_pos (.inr rfl)]; rfl
  | c :: l, acc, h => by
    obtain ⟨h1, h2⟩ := h c (List.mem_cons_self ..)
    have hl : allDig l := fun d hd => h d (List.mem_cons_of_mem _ hd)
    have hge := dv_ge l (acc * 10 + (c.toNat - 48))
    have e : dv (c :: l) acc = dv l (acc * 10 + (c.toNat - 48)) := rfl
    have hne : ¬ (c :: l = []) := by intro h; cases h
    unfold Lib.parseUintM
    rw [if_pos ⟨h1, h2⟩]
    by_cases h3 : 1844674407370955162 ≤ acc
    · rw [if_pos h3, e, if_neg (by rintro (h | h); omega; exact hne h)]
    · rw [if_neg h3]
      by_cases h4 : 18446744073709551615 < acc * 10 + (c.toNat - 48)
      · rw [if_pos h4, e, if_neg (by rintro (h | h); omega; exact hne h)]
      · rw [if_neg h4, uintM_at l _ hl, e]
        cases l with
        | nil =>
          rw [if_pos (.inr rfl), if_pos (.inl (by show acc * 10 + (c.toNat - 48) ≤ _; omega))]
        | cons x r =>
          have hne2 : ¬ (x :: r = []) := by intro h; cases h
          by_cases h5 : dv (x :: r) (acc * 10 + (c.toNat - 48)) ≤ 18446744073709551615
          · rw [if_pos (.inl h5), if_pos (.inl h5)]
          · rw [if_neg (by rintro (h | h); exact h5 h; exact hne2 h), if_neg (by rintro (h | h); exact h5 h; exact hne h)]

theorem uintB_at (l : List UInt8) (hl : l ≠ []) (hd : allDig l) : Lib.parseUintB 64 l = if dv l 0 ≤ 18446744073709551615 then .ok (dv l 0) else .range := by
  unfold Lib.parseUintB
  rw [if_neg hl]
  have e : (2 : Nat) ^ 64 - 1 = 18446744073709551615 := by decide
  rw [e, uintM_at l 0 hd]
  by_cases h : dv l 0 ≤ 18446744073709551615
  · rw [if_pos (.inl h), if_pos h]
  · rw [if_neg (by rintro (h1 | h1); exact h h1; exact hl h1), if_neg h]

theorem intV_out {neg : Bool} {n : Nat} (h : if neg then 9223372036854775808 < n else 9223372036854775808 ≤ n) : intV neg n = (0, false) := by
  unfold intV
  cases neg
  · rw [if_neg (by decide), if_pos (by simpa using h)]
  · rw [if_pos rfl, if_pos (by simpa using h)]
theorem intV_in {neg : Bool} {n : Nat} (h : ¬ if neg then 9223372036854775808 < n else 9223372036854775808 ≤ n) : intV neg n = (if neg then -(n : Int) else (n : Int), true) := by
  unfold intV
  cases neg
  · rw [if_neg (by decide), if_neg (by simpa using h)]; rfl
  · rw [if_pos rfl, if_neg (by simpa using h)]; rfl

/-- ParseInt at a sign and digits. -/
theorem parseInt_at (g l : List UInt8) (hg : g = [] ∨ g = [43] ∨ g = [45]) (hl : l ≠ []) (hd : allDig l) :
    Lib.parseIntB 64 (g ++ l) = if (intV (g == [45]) (dv l 0)).2 then .ok (intV (g == [45]) (dv l 0)).1 else .range := by
  have hu := uintB_at l hl hd
  have e63 : (2 : Nat) ^ (64 - 1) = 9223372036854775808 := by decide
  have hsl : Lib.signlessC 9223372036854775808 (Lib.parseUintB 64 l) = if (intV false (dv l 0)).2 then .ok (intV false (dv l 0)).1 else .range := by
    rw [hu]
    by_cases h : dv l 0 ≤ 18446744073709551615
    · rw [if_pos h]
      by_cases h2 : 9223372036854775808 ≤ dv l 0
      · rw [intV_out (neg := false) h2]
        simp [Lib.signlessC, h2]
      · rw [intV_in (neg := false) h2]
        simp [Lib.signlessC, h2]
    · rw [if_neg h, intV_out (neg := false) (show 9223372036854775808 ≤ dv l 0 by omega)]
      rfl
  rcases hg with rfl | rfl | rfl
  · have eg : (([] : List UInt8) == [45]) = false := rfl
    rw [eg, List.nil_append, ← hsl]
    obtain ⟨c, r, rfl⟩ : ∃ c r, l = c :: r := by
      cases l with
      | nil => exact absurd rfl hl
      | cons c r => exact ⟨c, r, rfl⟩
    have hc := hd c (List.mem_cons_self ..)
    unfold isDig at hc
    rw [Lib.parseIntB_plain 64 c r (by omega) (by omega), e63]
  · have eg : (([43] : List UInt8) == [45]) = false := rfl
    rw [eg, ← hsl]
    show Lib.parseIntB 64 (43 :: l) = _
    rw [Lib.parseIntB_plus, e63]
  · have eg : (([45] : List UInt8) == [45]) = true := rfl
    rw [eg]
    show Lib.parseIntB 64 (45 :: l) = _
    rw [Lib.parseIntB_minus, e63, hu]
    by_cases h : dv l 0 ≤ 18446744073709551615
    · rw [if_pos h]
      by_cases h2 : 9223372036854775808 < dv l 0
      · rw [intV_out (neg := true) h2]
        simp [Lib.signedC, h2]
      · rw [intV_in (neg := true) h2]
        simp [Lib.signedC, h2]
    · rw [if_neg h, intV_out (neg := true) (show 9223372036854775808 < dv l 0 by omega)]
      rfl

theorem cmp_ge (y B : Nat) (h : B ≤ y) : some (compare (y : Int) (B : Int)) = some .gt ∨ some (compare (y : Int) (B : Int)) = some .eq := by
  by_cases he : y = B
  · right
    rw [he, Int.compare_eq_eq.2 rfl]
  · left
    rw [Int.compare_eq_gt.2 (by omega)]
theorem cmp_le (y B : Nat) (h : B ≤ y) : some (compare (-(y : Int)) (-(B : Int))) = some .lt ∨ some (compare (-(y : Int)) (-(B : Int))) = some .eq := by
  by_cases he : y = B
  · right
    rw [he, Int.compare_eq_eq.2 rfl]
  · left
    rw [Int.compare_eq_lt.2 (by omega)]
theorem bigW_read (neg : Bool) : Ieee.double.read (wd neg bigW) = .number neg binW 11 := by cases neg <;> decide

/-- a word at or beyond 2^63 against 2^63. -/
theorem ord_big (x : Nat) (h1 : bigW ≤ x) (h2 : x ≤ infW) : Ieee.double.order (wd false x) bigW = some .gt ∨ Ieee.double.order (wd false x) bigW = some .eq := by
  unfold Ieee.Format.order
  have hb : Ieee.double.read bigW = .number false binW 11 := bigW_read false
  rw [hb]
  by_cases h3 : x < infW
  · rw [read_mid false x (by unfold binW; unfold bigW at h1; omega) h3]
    have hj : (-1074 : Int) + ((x / binW - 1 : Nat) : Int) = 11 + ((x / binW - 1086 : Nat) : Int) := by
      unfold binW; unfold bigW at h1; omega
    rw [hj]
    generalize x / binW - 1086 = k
    generalize x % binW = t
    show some (compare (Ieee.signed false (binW + t) ((11 + (k : Int)) - min (11 + (k : Int)) 11).toNat) (Ieee.signed false binW ((11 : Int) - min (11 + (k : Int)) 11).toNat)) = some .gt ∨ some (compare (Ieee.signed false (binW + t) ((11 + (k : Int)) - min (11 + (k : Int)) 11).toNat) (Ieee.signed false binW ((11 : Int) - min (11 + (k : Int)) 11).toNat)) = some .eq
    rw [show min (11 + (k : Int)) 11 = 11 by omega, show ((11 + (k : Int)) - 11).toNat = k by omega, show ((11 : Int) - 11).toNat = 0 by omega]
    have e1 : Ieee.signed false (binW + t) k = (((binW + t) <<< k : Nat) : Int) := rfl
    have e2 : Ieee.signed false binW 0 = ((binW <<< 0 : Nat) : Int) := rfl
    rw [e1, e2, Nat.shiftLeft_zero]
    have hge : binW ≤ (binW + t) <<< k := by
      rw [Nat.shiftLeft_eq]
      have h2k := Nat.two_pow_pos k
      have : (binW + t) * 1 ≤ (binW + t) * 2 ^ k := Nat.mul_le_mul_left _ h2k
      omega
    exact cmp_ge _ _ hge
  · obtain rfl : x = infW := by omega
    rw [read_inf false]
    exact .inl rfl
theorem ord_neg (x : Nat) (h1 : bigW ≤ x) (h2 : x ≤ infW) : Ieee.double.order (wd true x) 14114281232179134464 = some .lt ∨ Ieee.double.order (wd true x) 14114281232179134464 = some .eq := by
  unfold Ieee.Format.order
  have hb : Ieee.double.read 14114281232179134464 = .number true binW 11 := bigW_read true
  rw [hb]
  by_cases h3 : x < infW
  · rw [read_mid true x (by unfold binW; unfold bigW at h1; omega) h3]
    have hj : (-1074 : Int) + ((x / binW - 1 : Nat) : Int) = 11 + ((x / binW - 1086 : Nat) : Int) := by
      unfold binW; unfold bigW at h1; omega
    rw [hj]
    generalize x / binW - 1086 = k
    generalize x % binW = t
    show some (compare (Ieee.signed true (binW + t) ((11 + (k : Int)) - min (11 + (k : Int)) 11).toNat) (Ieee.signed true binW ((11 : Int) - min (11 + (k : Int)) 11).toNat)) = some .lt ∨ some (compare (Ieee.signed true (binW + t) ((11 + (k : Int)) - min (11 + (k : Int)) 11).toNat) (Ieee.signed true binW ((11 : Int) - min (11 + (k : Int)) 11).toNat)) = some .eq
    rw [show min (11 + (k : Int)) 11 = 11 by omega, show ((11 + (k : Int)) - 11).toNat = k by omega, show ((11 : Int) - 11).toNat = 0 by omega]
    have e1 : Ieee.signed true (binW + t) k = -(((binW + t) <<< k : Nat) : Int) := rfl
    have e2 : Ieee.signed true binW 0 = -((binW <<< 0 : Nat) : Int) := rfl
    rw [e1, e2, Nat.shiftLeft_zero]
    have hge : binW ≤ (binW + t) <<< k := by
      rw [Nat.shiftLeft_eq]
      have h2k := Nat.two_pow_pos k
      have : (binW + t) * 1 ≤ (binW + t) * 2 ^ k := Nat.mul_le_mul_left _ h2k
      omega
    exact cmp_le _ _ hge
  · obtain rfl : x = infW := by omega
    rw [read_inf true]
    exact .inl rfl
end Go.Proofs.Qxb6606071aDoor.Fl
