import Derived.Test.Qxb6614997aFmtPlain2
import Derived.Test.Qxb6614997aFmtPlain3
/- The page law, plainly. -/
namespace Go.Proofs.Qxb6614997aFmt.Pl

theorem first_cons (nm p q : List UInt8) (h : ∀ c ∈ p, c ≠ 38) : first nm (p ++ 38 :: q) = if isNamed nm p then some p else first nm q := by
  unfold first
  rw [pairs_amp p q h, List.find?_cons]
  cases isNamed nm p <;> rfl

theorem param_cons_no (nm p q : List UInt8) (h : ∀ c ∈ p, c ≠ 38) (hn : isNamed nm p = false) : param nm (p ++ 38 :: q) = param nm q := by
  unfold param; rw [first_cons nm p q h, hn]; rfl
theorem param_cons_yes (nm p q : List UInt8) (h : ∀ c ∈ p, c ≠ 38) (hn : isNamed nm p = true) : param nm (p ++ 38 :: q) = some (match pairVal p with | none => none | some v => count v) := by
  unfold param; rw [first_cons nm p q h, hn]; rfl

/-- a plain pair. -/
theorem plain_pair (k v : List UInt8) (hk : ∀ c ∈ k, c ≠ 61 ∧ c ≠ 37 ∧ c ≠ 43 ∧ c ≠ 59) (hv : ∀ c ∈ v, c ≠ 37 ∧ c ≠ 43 ∧ c ≠ 59) :
    (∀ nm, isNamed nm (k ++ 61 :: v) = decide (k = nm)) ∧ pairVal (k ++ 61 :: v) = some v := by
  obtain ⟨h1, h2⟩ := key_amp k v (fun d hd => (hk d hd).1)
  constructor
  · intro nm
    unfold isNamed unesc
    obtain ⟨a, b⟩ := plain_all k (fun c hc => ⟨(hk c hc).2.1, (hk c hc).2.2.1⟩)
    rw [h1, a, b]
    simp
  · unfold pairVal unesc
    obtain ⟨a, b⟩ := plain_all v (fun c hc => ⟨(hv c hc).1, (hv c hc).2.1⟩)
    rw [h2, a, b]
    have : (k ++ 61 :: v).contains 59 = false := by
      rw [List.contains_eq_any_beq, List.any_eq_false]
      intro x hx
      simp at hx
      rcases hx with hx | rfl | hx
      · have := (hk x hx).2.2.2; simpa using this.symm
      · decide
      · have := (hv x hx).2.2; simpa using this.symm
    rw [this]
    rfl

theorem limitN_ok : ∀ c ∈ limitN, c ≠ 61 ∧ c ≠ 37 ∧ c ≠ 43 ∧ c ≠ 59 := by decide
theorem offsetN_ok : ∀ c ∈ offsetN, c ≠ 61 ∧ c ≠ 37 ∧ c ≠ 43 ∧ c ≠ 59 := by decide
theorem itoa_ok (n : Int) : ∀ c ∈ itoa n, c ≠ 37 ∧ c ≠ 43 ∧ c ≠ 59 := by
  intro c hc
  rcases itoa_bytes n c hc with h | rfl
  · unfold isDig at h
    have h := of_decide_eq_true h
    refine ⟨?_, ?_, ?_⟩ <;> (rintro rfl; revert h; decide)
  · decide
theorem itoa_amp (n : Int) : ∀ c ∈ itoa n, c ≠ 38 := by
  intro c hc
  rcases itoa_bytes n c hc with h | rfl
  · unfold isDig at h
    have h := of_decide_eq_true h
    rintro rfl; revert h; decide
  · decide

/-- 'limit=' v. -/
def limitPair (v : List UInt8) : List UInt8 := limitN ++ 61 :: v
def offsetPair (v : List UInt8) : List UInt8 := offsetN ++ 61 :: v

theorem amp_pair (k v : List UInt8) (hk : ∀ c ∈ k, c ≠ 38) (hv : ∀ c ∈ v, c ≠ 38) : ∀ c ∈ k ++ 61 :: v, c ≠ 38 := by
  intro c hc
  simp at hc
  rcases hc with hc | rfl | hc
  · exact hk c hc
  · decide
  · exact hv c hc

theorem limit_in_limit (v q : List UInt8) (hv : ∀ c ∈ v, c ≠ 37 ∧ c ≠ 43 ∧ c ≠ 59) (ha : ∀ c ∈ v, c ≠ 38) : param limitN (limitPair v ++ 38 :: q) = some (count v) := by
  obtain ⟨h1, h2⟩ := plain_pair limitN v limitN_ok hv
  rw [param_cons_yes limitN (limitPair v) q (amp_pair limitN v (by decide) ha) (by unfold limitPair; rw [h1]; simp)]
  unfold limitPair
  rw [h2]
theorem offset_in_limit (v q : List UInt8) (hv : ∀ c ∈ v, c ≠ 37 ∧ c ≠ 43 ∧ c ≠ 59) (ha : ∀ c ∈ v, c ≠ 38) : param offsetN (limitPair v ++ 38 :: q) = param offsetN q := by
  obtain ⟨h1, _⟩ := plain_pair limitN v limitN_ok hv
  exact param_cons_no _ _ _ (amp_pair limitN v (by decide) ha) (by unfold limitPair; rw [h1]; decide)
theorem offset_in_offset (v q : List UInt8) (hv : ∀ c ∈ v, c ≠ 37 ∧ c ≠ 43 ∧ c ≠ 59) (ha : ∀ c ∈ v, c ≠ 38) : param offsetN (offsetPair v ++ 38 :: q) = some (count v) := by
  obtain ⟨h1, h2⟩ := plain_pair offsetN v offsetN_ok hv
  rw [param_cons_yes offsetN (offsetPair v) q (amp_pair offsetN v (by decide) ha) (by unfold offsetPair; rw [h1]; simp)]
  unfold offsetPair
  rw [h2]
theorem limit_in_offset (v q : List UInt8) (hv : ∀ c ∈ v, c ≠ 37 ∧ c ≠ 43 ∧ c ≠ 59) (ha : ∀ c ∈ v, c ≠ 38) : param limitN (offsetPair v ++ 38 :: q) = param limitN q := by
  obtain ⟨h1, _⟩ := plain_pair offsetN v offsetN_ok hv
  exact param_cons_no _ _ _ (amp_pair offsetN v (by decide) ha) (by unfold offsetPair; rw [h1]; decide)

/-- the page of 'offset=0 and ' q. -/
theorem page1 (q : List UInt8) (m : Int) : page (offsetPair [48] ++ 38 :: q) m = (limitOf q m).map fun l => (0, l) := by
  have h1 := limit_in_offset [48] q (by decide) (by decide)
  have h2 := offset_in_offset [48] q (by decide) (by decide)
  have h3 : count [48] = some 0 := by decide +kernel
  rw [h3] at h2
  have e1 : limitOf (offsetPair [48] ++ 38 :: q) m = limitOf q m := by unfold limitOf; rw [h1]
  have e2 : offsetOf (offsetPair [48] ++ 38 :: q) = some 0 := by unfold offsetOf; rw [h2]; rfl
  unfold page
  rw [e1, e2]
  cases limitOf q m <;> rfl

/-- the page of 'limit=1 and ' q, at most 1. -/
theorem page2 (q : List UInt8) : page (limitPair [49] ++ 38 :: q) 1 = (offsetOf q).map fun o => (o, 1) := by
  have h1 := limit_in_limit [49] q (by decide) (by decide)
  have h2 := offset_in_limit [49] q (by decide) (by decide)
  have h3 : count [49] = some 1 := by decide +kernel
  rw [h3] at h1
  have e1 : limitOf (limitPair [49] ++ 38 :: q) 1 = some 1 := by unfold limitOf; rw [h1]; rfl
  have e2 : offsetOf (limitPair [49] ++ 38 :: q) = offsetOf q := by unfold offsetOf; rw [h2]
  unfold page
  rw [e1, e2]
  cases offsetOf q <;> rfl

/-- the page of 'limit=' L ' and offset=' N ' and ' q. -/
theorem page3 (q : List UInt8) (m L N : Int) (hL : L ≤ 9223372036854775807) (hN : N ≤ 9223372036854775807) :
    page (limitPair (itoa L) ++ 38 :: (offsetPair (itoa N) ++ 38 :: q)) m = if 1 ≤ L ∧ L ≤ m ∧ 0 ≤ N then some (N, L) else none := by
  have h1 := limit_in_limit (itoa L) (offsetPair (itoa N) ++ 38 :: q) (itoa_ok L) (itoa_amp L)
  have h2 := offset_in_limit (itoa L) (offsetPair (itoa N) ++ 38 :: q) (itoa_ok L) (itoa_amp L)
  have h3 := offset_in_offset (itoa N) q (itoa_ok N) (itoa_amp N)
  rw [h3] at h2
  have e1 : limitOf (limitPair (itoa L) ++ 38 :: (offsetPair (itoa N) ++ 38 :: q)) m = if 1 ≤ L ∧ L ≤ m then some L else none := by
    unfold limitOf
    rw [h1]
    by_cases h : L < 0
    · rw [count_itoa_neg L h, if_neg (by omega)]
    · rw [count_itoa L (by omega) hL]
      simp only
      by_cases h0 : L = 0
      · rw [if_pos (by omega), if_neg (by omega)]
      · rw [if_neg (by omega)]
        by_cases hm : L ≤ m
        · rw [if_neg (by omega), if_pos (by omega)]; congr 1; omega
        · rw [if_pos (by omega), if_neg (by omega)]
  have e2 : offsetOf (limitPair (itoa L) ++ 38 :: (offsetPair (itoa N) ++ 38 :: q)) = if 0 ≤ N then some N else none := by
    unfold offsetOf
    rw [h2]
    by_cases h : N < 0
    · rw [count_itoa_neg N h, if_neg (by omega)]
    · rw [count_itoa N (by omega) hN, if_pos (by omega)]
      simp only
      congr 1; omega
  unfold page
  rw [e1, e2]
  by_cases h : 1 ≤ L ∧ L ≤ m
  · by_cases hN0 : 0 ≤ N
    · simp [h, hN0]
    · simp [h, hN0]
  · have h' : ¬ (1 ≤ L ∧ L ≤ m ∧ 0 ≤ N) := fun c => h ⟨c.1, c.2.1⟩
    rw [if_neg h']
    simp [h]

theorem page0 (q : List UInt8) (m : Int) : page q m = (limitOf q m).bind fun l => (offsetOf q).map fun o => (o, l) := by
  unfold page
  cases limitOf q m with
  | none => rfl
  | some l => cases offsetOf q <;> rfl
end Go.Proofs.Qxb6614997aFmt.Pl
