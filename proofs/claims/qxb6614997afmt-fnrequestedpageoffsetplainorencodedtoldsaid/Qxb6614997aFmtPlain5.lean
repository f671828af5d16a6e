import Derived.Test.Qxb6614997aFmtPlain4
/- The second law, plainly: a value percent-encoded; a count told by comparing digits. -/
namespace Go.Proofs.Qxb6614997aFmt.Pl

/-- the hex digits. -/
def hexD : List UInt8 := [48, 49, 50, 51, 52, 53, 54, 55, 56, 57, 65, 66, 67, 68, 69, 70]
def hexAt (n : Nat) : UInt8 := hexD.getD n 0
/-- zzPctEncode. -/
def pct : List UInt8 → List UInt8
  | [] => []
  | c :: r => 37 :: hexAt (c.toNat / 16) :: hexAt (c.toNat % 16) :: pct r

theorem pct_append (a b : List UInt8) : pct (a ++ b) = pct a ++ pct b := by
  induction a with
  | nil => rfl
  | cons c a ih => simp [pct, ih]
theorem pct_length (l : List UInt8) : (pct l).length = 3 * l.length := by
  induction l with
  | nil => rfl
  | cons c l ih => simp [pct, ih]; omega

theorem hex_facts : ∀ c : Fin 256, hexB (hexAt (c.val / 16)) = true ∧ hexB (hexAt (c.val % 16)) = true ∧ two (hexAt (c.val / 16)) (hexAt (c.val % 16)) = UInt8.ofNat c.val := by decide +kernel
theorem hex_plain : ∀ n : Fin 16, hexAt n.val ≠ 38 ∧ hexAt n.val ≠ 59 ∧ hexAt n.val ≠ 61 := by decide

theorem unesc_pct (l : List UInt8) : unesc (pct l) = some l := by
  have h : okEsc (pct l) = true ∧ dec (pct l) = l := by
    induction l with
    | nil => exact ⟨rfl, rfl⟩
    | cons c r ih =>
      have hc := hex_facts ⟨c.toNat, c.toNat_lt⟩
      simp only [UInt8.ofNat_toNat] at hc
      obtain ⟨h1, h2, h3⟩ := hc
      constructor
      · simp [pct, okEsc, h1, h2, ih.1]
      · simp [pct, dec, h3, ih.2]
  unfold unesc
  rw [h.1, h.2]; rfl

theorem pct_bytes (l : List UInt8) : ∀ c ∈ pct l, c ≠ 38 ∧ c ≠ 59 ∧ c ≠ 61 := by
  induction l with
  | nil => intro c hc; simp [pct] at hc
  | cons x r ih =>
    intro c hc
    have hx := x.toNat_lt
    simp only [pct, List.mem_cons] at hc
    rcases hc with rfl | rfl | rfl | hc
    · decide
    · exact hex_plain ⟨x.toNat / 16, by omega⟩
    · exact hex_plain ⟨x.toNat % 16, by omega⟩
    · exact ih c hc

theorem count_semi (s : List UInt8) (h : s.contains 59 = true) : count s = none := by
  unfold count
  split
  · rfl
  · rw [if_neg]
    intro hall
    rw [List.all_eq_true] at hall
    have hm : (59 : UInt8) ∈ s := by simpa using h
    have := hall 59 hm
    revert this; decide

/-- the plain pair: no ampersand, percent sign or plus in s. -/
theorem param_plain (s q : List UInt8) (h : ∀ c ∈ s, c ≠ 38 ∧ c ≠ 37 ∧ c ≠ 43) : param offsetN (offsetPair s ++ 38 :: q) = some (count s) := by
  obtain ⟨h1, h2⟩ := key_amp offsetN s (by decide)
  have hn : isNamed offsetN (offsetPair s) = true := by
    unfold isNamed offsetPair
    rw [h1]
    have : unesc offsetN = some offsetN := by decide +kernel
    rw [this]; simp
  rw [param_cons_yes offsetN (offsetPair s) q (amp_pair offsetN s (by decide) (fun c hc => (h c hc).1)) hn]
  congr 1
  unfold pairVal offsetPair
  rw [h2]
  have ho : offsetN.contains 59 = false := by decide
  have e : (offsetN ++ 61 :: s).contains 59 = s.contains 59 := by
    simp [offsetN]
  rw [e]
  cases hc : s.contains 59 with
  | true => rw [count_semi s hc]; rfl
  | false =>
    obtain ⟨a, b⟩ := plain_all s (fun c hc => ⟨(h c hc).2.1, (h c hc).2.2⟩)
    simp [unesc, a, b]

/-- the encoded pair. -/
theorem param_pct (s q : List UInt8) : param offsetN (pct offsetN ++ 61 :: pct s ++ 38 :: q) = some (count s) := by
  obtain ⟨h1, h2⟩ := key_amp (pct offsetN) (pct s) (fun d hd => (pct_bytes _ d hd).2.2)
  have hn : isNamed offsetN (pct offsetN ++ 61 :: pct s) = true := by
    unfold isNamed
    rw [h1, unesc_pct]; simp
  rw [param_cons_yes offsetN (pct offsetN ++ 61 :: pct s) q (amp_pair (pct offsetN) (pct s) (fun c hc => (pct_bytes _ c hc).1) (fun c hc => (pct_bytes _ c hc).1)) hn]
  congr 1
  unfold pairVal
  rw [h2, unesc_pct]
  have e : (pct offsetN ++ 61 :: pct s).contains 59 = false := by
    rw [List.contains_eq_any_beq, List.any_eq_false]
    intro x hx
    simp only [List.mem_append, List.mem_cons] at hx
    rcases hx with hx | rfl | hx
    · have := (pct_bytes _ x hx).2.1; simpa using this.symm
    · decide
    · have := (pct_bytes _ x hx).2.1; simpa using this.symm
  rw [e]; rfl

/-- both pages. -/
theorem page_of (r : List UInt8) (s : List UInt8) (h : param offsetN r = some (count s)) : page (limitPair [49] ++ 38 :: r) 1 = (count s).map fun n => ((n : Int), 1) := by
  rw [page2]
  unfold offsetOf
  rw [h]
  cases count s <;> rfl

/-! ### the count, told by comparing digits -/
/-- the value of digits. -/
def val (l : List UInt8) : Nat := l.foldl (fun v c => v * 10 + (c.toNat - 48)) 0

theorem val_snoc (l : List UInt8) (c : UInt8) : val (l ++ [c]) = val l * 10 + (c.toNat - 48) := by simp [val]

theorem foldl_val (l : List UInt8) : ∀ a, l.foldl (fun v c => v * 10 + (c.toNat - 48)) a = a * 10 ^ l.length + val l := by
  induction l with
  | nil => intro a; simp [val]
  | cons c l ih =>
    intro a
    simp only [List.foldl_cons, List.length_cons, val]
    rw [ih, ih (0 * 10 + (c.toNat - 48)), Nat.pow_succ]
    simp only [Nat.zero_mul, Nat.zero_add]
    rw [Nat.add_mul, Nat.mul_assoc, Nat.mul_comm 10]
    omega

theorem val_cons (c : UInt8) (l : List UInt8) : val (c :: l) = (c.toNat - 48) * 10 ^ l.length + val l := by
  show List.foldl _ (0 * 10 + (c.toNat - 48)) l = _
  rw [foldl_val]; simp

theorem val_lt (l : List UInt8) (h : ∀ c ∈ l, isDig c = true) : val l < 10 ^ l.length := by
  induction l with
  | nil => simp [val]
  | cons c l ih =>
    rw [val_cons, List.length_cons, Nat.pow_succ]
    have h1 := ih (fun d hd => h d (by simp [hd]))
    have h2 := of_decide_eq_true (h c (by simp))
    have h3 : (c.toNat - 48) * 10 ^ l.length ≤ 9 * 10 ^ l.length := Nat.mul_le_mul_right _ (by omega)
    omega

/-- the saturated fold is the value, or the largest int where it is past it. -/
theorem step_min (l : List UInt8) (h : ∀ c ∈ l, isDig c = true) : ∀ a, a ≤ mx → l.foldl step a = min (l.foldl (fun v c => v * 10 + (c.toNat - 48)) a) mx := by
  induction l with
  | nil => intro a ha; simp; omega
  | cons c l ih =>
    intro a ha
    have hc := of_decide_eq_true (h c (by simp))
    have ih' := ih (fun d hd => h d (by simp [hd]))
    simp only [List.foldl_cons]
    by_cases hs : a > (mx - (c.toNat - 48)) / 10
    · have e : step a c = mx := by unfold step; rw [if_pos hs]
      rw [e, ih' mx (Nat.le_refl _)]
      have g1 := foldl_val l mx
      have g2 := foldl_val l (a * 10 + (c.toNat - 48))
      rw [g1, g2]
      have hp : 1 ≤ 10 ^ l.length := Nat.one_le_pow _ _ (by omega)
      have hbig : mx < a * 10 + (c.toNat - 48) := by unfold mx at hs ⊢; omega
      have k1 : mx ≤ mx * 10 ^ l.length := Nat.le_mul_of_pos_right _ (by omega)
      have k2 : (a * 10 + (c.toNat - 48)) ≤ (a * 10 + (c.toNat - 48)) * 10 ^ l.length := Nat.le_mul_of_pos_right _ (by omega)
      rw [Nat.min_eq_right (by omega), Nat.min_eq_right (by omega)]
    · have e : step a c = a * 10 + (c.toNat - 48) := by unfold step; rw [if_neg hs]
      rw [e]
      exact ih' _ (by unfold mx at hs ⊢; omega)

theorem count_val (s : List UInt8) (h0 : s ≠ []) (h : ∀ c ∈ s, isDig c = true) : count s = some (min (val s) mx) := by
  unfold count
  rw [if_neg h0, if_pos (List.all_eq_true.2 h), step_min s h 0 (Nat.zero_le _)]; rfl

/-- leading zeros count nothing. -/
theorem val_zeros : ∀ (k : Nat) (s : List UInt8), (∀ j, j < k → s[j]? = some 48) → val s = val (s.drop k)
  | 0, s, _ => rfl
  | k + 1, [], h => by have := h 0 (by omega); simp at this
  | k + 1, c :: s, h => by
    have hc := h 0 (by omega)
    simp at hc
    subst hc
    rw [val_cons, List.drop_succ_cons, ← val_zeros k s (fun j hj => by have := h (j + 1) (by omega); simpa using this)]
    simp

/-- a numeral without a leading zero is at least a power of ten. -/
theorem val_ge (c : UInt8) (l : List UInt8) (hc : isDig c = true) (h0 : c ≠ 48) : 10 ^ l.length ≤ val (c :: l) := by
  rw [val_cons]
  have h2 := of_decide_eq_true hc
  have h3 : c.toNat ≠ 48 := fun e => h0 (UInt8.toNat_inj.1 (by rw [e]; rfl))
  have : 1 * 10 ^ l.length ≤ (c.toNat - 48) * 10 ^ l.length := Nat.mul_le_mul_right _ (by omega)
  omega

end Go.Proofs.Qxb6614997aFmt.Pl
