import Derived.Test.Qxb6606071aDoorB5
import Derived.Test.Qxb6606071aDoorE11
/- ParseFloat at a run of digits at or beyond 2^63. -/
namespace Go.Proofs.Qxb6606071aDoor.Fl
open Go Go.RowKit

/-- the number that digits write behind acc. -/
def dv : List UInt8 → Nat → Nat
  | [], acc => acc
  | c :: l, acc => dv l (acc * 10 + (c.toNat - 48))
def allDig (l : List UInt8) : Prop := ∀ c, c ∈ l → isDig c

theorem drop_cons (s : ByteArray) (i : Nat) (h : i < s.size) : s.data.toList.drop i = s[i]'h :: s.data.toList.drop (i + 1) := by
  have hl : i < s.data.toList.length := by rw [Array.length_toList]; exact h
  rw [List.drop_eq_getElem_cons hl]
  rfl

theorem rfRun_fold (s : ByteArray) : ∀ (f i : Nat) (R : RF), i + f ≤ s.size → rfRun s f i R = ((s.data.toList.drop i).take f).foldl (fun R c => rfStep R c.toNat) R
  | 0, i, R, _ => by simp [rfRun]
  | f + 1, i, R, h => by
    have hi : i < s.size := by omega
    unfold rfRun
    rw [dif_pos hi, rfRun_fold s f (i + 1) _ (by omega), drop_cons s i hi, List.take_succ_cons, List.foldl_cons]
theorem stRun_fold (s : ByteArray) : ∀ (f i : Nat) (R : Dst × Bool), i + f ≤ s.size → stRun s f i R = ((s.data.toList.drop i).take f).foldl (fun R c => (stStep R.1 c.toNat, R.2 || decide (c.toNat = 46))) R
  | 0, i, R, _ => by simp [stRun]
  | f + 1, i, R, h => by
    have hi : i < s.size := by omega
    unfold stRun
    rw [dif_pos hi, stRun_fold s f (i + 1) _ (by omega), drop_cons s i hi, List.take_succ_cons, List.foldl_cons]

/-- what readFloat and set know behind digits that write acc. -/
structure Digs (R : RF) (S : Dst × Bool) (acc : Nat) : Prop where
  dot : R.dot = false
  dot2 : S.2 = false
  nd : S.1.nd = min R.nd 800
  m : (R.nd ≤ 19 ∧ R.nm = R.nd ∧ R.m = acc ∧ acc < 10 ^ R.nd ∧ (R.nd = 0 ∨ 10 ^ (R.nd - 1) ≤ acc) ∧ R.tr = false) ∨ (20 ≤ R.nd ∧ R.nm = 19 ∧ 1000000000000000000 ≤ R.m ∧ R.m < 10000000000000000000)

theorem Digs.step {R : RF} {S : Dst × Bool} {acc : Nat} (h : Digs R S acc) (c : UInt8) (hc : isDig c) : Digs (rfStep R c.toNat) (stStep S.1 c.toNat, S.2 || decide (c.toNat = 46)) (acc * 10 + (c.toNat - 48)) := by
  obtain ⟨h1, h2, h3, h4⟩ := h
  obtain ⟨hc1, hc2⟩ := hc
  have n46 : c.toNat ≠ 46 := by omega
  have hd2 : (S.2 || decide (c.toNat = 46)) = false := by rw [h2, decide_eq_false n46]; rfl
  unfold rfStep stStep
  rw [if_neg n46, if_neg n46]
  by_cases hz : c.toNat = 48 ∧ R.nd = 0
  · have hz2 : c.toNat = 48 ∧ S.1.nd = 0 := ⟨hz.1, by omega⟩
    rw [if_pos hz, if_pos hz2]
    refine ⟨h1, hd2, h3, ?_⟩
    rcases h4 with ⟨a1, a2, a3, a4, a5, a6⟩ | h4
    · left
      have e0 : acc = 0 := by rw [hz.2] at a4; omega
      exact ⟨a1, a2, by rw [e0, hz.1]; rw [e0] at a3; exact a3, by rw [e0, hz.1, hz.2]; decide, .inl hz.2, a6⟩
    · have := hz.2; omega
  · have hz2 : ¬ (c.toNat = 48 ∧ S.1.nd = 0) := by omega
    rw [if_neg hz, if_neg hz2]
    have hnd : ∀ (D : Nat → Int) (tr : Bool), (if S.1.nd < 800 then (⟨put S.1.D S.1.nd c.toNat, S.1.nd + 1, S.1.dp, S.1.tr⟩ : Dst) else ⟨S.1.D, S.1.nd, S.1.dp, if c.toNat = 48 then S.1.tr else true⟩).nd = min (R.nd + 1) 800 := by
      intro _ _
      split
      · show S.1.nd + 1 = _; omega
      · show S.1.nd = _; omega
    by_cases h19 : R.nm < 19
    · rw [if_pos h19]
      refine ⟨h1, hd2, hnd (fun _ => 0) false, ?_⟩
      rcases h4 with ⟨a1, a2, a3, a4, a5, a6⟩ | h4
      · left
        have hp : 10 ^ R.nd ≤ 10 ^ 18 := Nat.pow_le_pow_right (by decide) (by omega)
        have e18 : (10 : Nat) ^ 18 = 1000000000000000000 := by decide
        have hpe : 10 ^ (R.nd + 1) = 10 ^ R.nd * 10 := Nat.pow_succ ..
        have hw : IntKind.u64.wrap (IntKind.u64.wrap (R.m * 10) + ((c.toNat : Int) - 48)) = ((acc * 10 + (c.toNat - 48) : Nat) : Int) := by
          have w1 : IntKind.u64.wrap ((acc : Int) * 10) = (acc : Int) * 10 := wrap_u64 _ (by omega) (by omega)
          rw [a3, w1, wrap_u64 _ (by omega) (by omega)]
          omega
        refine ⟨by show R.nd + 1 ≤ 19; omega, by show R.nm + 1 = R.nd + 1; omega, hw, by show acc * 10 + (c.toNat - 48) < 10 ^ (R.nd + 1); omega, .inr ?_, a6⟩
        show 10 ^ (R.nd + 1 - 1) ≤ acc * 10 + (c.toNat - 48)
        rw [Nat.add_sub_cancel]
        by_cases h0 : R.nd = 0
        · rw [h0] at hz ⊢
          have : c.toNat ≠ 48 := fun h => hz ⟨h, rfl⟩
          show 1 ≤ _
          omega
        · obtain ⟨k, hk⟩ : ∃ k, R.nd = k + 1 := ⟨R.nd - 1, by omega⟩
          rcases a5 with a5 | a5
          · omega
          · rw [hk, Nat.add_sub_cancel] at a5
            rw [hk, Nat.pow_succ]
            omega
      · omega
    · rw [if_neg h19]
      refine ⟨h1, hd2, hnd (fun _ => 0) false, ?_⟩
      right
      rcases h4 with ⟨a1, a2, a3, a4, a5, a6⟩ | ⟨b1, b2, b3, b4⟩
      · have e19 : R.nd = 19 := by omega
        have p1 : (10 : Nat) ^ 19 = 10000000000000000000 := by decide
        have p2 : (10 : Nat) ^ 18 = 1000000000000000000 := by decide
        rw [e19] at a4 a5
        have a5' : 10 ^ 18 ≤ acc := by rcases a5 with h | h; omega; exact h
        exact ⟨by show 20 ≤ R.nd + 1; omega, by show R.nm = 19; omega, by show _ ≤ R.m; omega, by show R.m < _; omega⟩
      · exact ⟨by show 20 ≤ R.nd + 1; omega, b2, b3, b4⟩

theorem Digs.all : ∀ (l : List UInt8) (R : RF) (S : Dst × Bool) (acc : Nat), allDig l → Digs R S acc → Digs (l.foldl (fun R c => rfStep R c.toNat) R) (l.foldl (fun R c => (stStep R.1 c.toNat, R.2 || decide (c.toNat = 46))) S) (dv l acc)
  | [], _, _, _, _, h => h
  | c :: l, R, S, acc, hl, h => by
    simp only [List.foldl_cons]
    exact Digs.all l _ _ _ (fun d hd => hl d (List.mem_cons_of_mem _ hd)) (h.step c (hl c (List.mem_cons_self ..)))

theorem Digs.start : Digs rf0 (st0, false) 0 := ⟨rfl, rfl, rfl, .inl ⟨by decide, rfl, rfl, by decide, .inl rfl, rfl⟩⟩

/-- the text behind its sign: digits, and a point at most. -/
def Whole (s : ByteArray) (a : Nat) (l : List UInt8) : Prop := allDig l ∧ (s.data.toList.drop a = l ∨ s.data.toList.drop a = l ++ [46])

/-- what readFloat and set know of such a text. -/
theorem whole_known (s : ByteArray) (a : Nat) (l : List UInt8) (ha : a ≤ s.size) (hw : Whole s a l) :
    ∃ R S, Digs R S (dv l 0) ∧ (rfAll s a s.size).m = R.m ∧ (rfAll s a s.size).tr = R.tr ∧ rfDp (rfAll s a s.size) = R.nd ∧ (rfAll s a s.size).nm = R.nm ∧ (stOf s a s.size 0).nd = S.1.nd ∧ (stOf s a s.size 0).dp = S.1.nd := by
  have e1 : rfAll s a s.size = (s.data.toList.drop a).foldl (fun R c => rfStep R c.toNat) rf0 := by
    unfold rfAll
    rw [rfRun_fold s (s.size - a) a rf0 (by omega), List.take_of_length_le (by rw [List.length_drop, Array.length_toList]; exact Nat.le_refl _)]
  have e2 : stAll s a s.size = (s.data.toList.drop a).foldl (fun R c => (stStep R.1 c.toNat, R.2 || decide (c.toNat = 46))) (st0, false) := by
    unfold stAll
    rw [stRun_fold s (s.size - a) a (st0, false) (by omega), List.take_of_length_le (by rw [List.length_drop, Array.length_toList]; exact Nat.le_refl _)]
  have hD := Digs.all l rf0 (st0, false) 0 hw.1 Digs.start
  refine ⟨_, _, hD, ?_⟩
  obtain ⟨h1, h2, h3, h4⟩ := hD
  rcases hw.2 with h | h
  · rw [h] at e1 e2
    unfold stOf stDp
    rw [e1, e2]
    refine ⟨rfl, rfl, ?_, rfl, rfl, ?_⟩
    · unfold rfDp; rw [h1]; rfl
    · dsimp only
      rw [h2, Int.add_zero]; rfl
  · rw [h, List.foldl_append, List.foldl_cons, List.foldl_nil] at e1 e2
    generalize l.foldl (fun R c => rfStep R c.toNat) rf0 = R at *
    generalize l.foldl (fun R c => (stStep R.1 c.toNat, R.2 || decide (c.toNat = 46))) (st0, false) = S at *
    have e46 : (46 : UInt8).toNat = 46 := rfl
    have e3 : rfStep R (46 : UInt8).toNat = ⟨R.m, R.nd, R.nm, R.nd, true, R.dig, R.tr⟩ := by unfold rfStep; rw [if_pos e46]
    have e4 : stStep S.1 (46 : UInt8).toNat = ⟨S.1.D, S.1.nd, S.1.nd, S.1.tr⟩ := by unfold stStep; rw [if_pos e46]
    have e5 : (S.2 || decide ((46 : UInt8).toNat = 46)) = true := by rw [decide_eq_true e46, Bool.or_true]
    rw [e3] at e1
    rw [e4, e5] at e2
    unfold stOf stDp
    rw [e1, e2]
    refine ⟨rfl, rfl, rfl, rfl, rfl, ?_⟩
    show (S.1.nd : Int) + 0 = S.1.nd
    omega

/-- ParseFloat's answer at a run of digits at or beyond 2^63. -/
theorem ans_big (s : ByteArray) (a : Nat) (neg : Bool) (hs : NumText s a s.size neg) (l : List UInt8) (hw : Whole s a l) (hbig : 9223372036854775808 ≤ dv l 0) (f : Nat) (ov : Bool) (hA : AnsOf s a s.size neg f ov) :
    ∃ x, f = wd neg x ∧ bigW ≤ x ∧ x ≤ infW := by
  have ha : a ≤ s.size := by have := hs.am; omega
  obtain ⟨R, S, hD, k1, k2, k3, k4, k5, k6⟩ := whole_known s a l ha hw
  obtain ⟨p, D, hP, rfl, _⟩ := hA
  obtain ⟨hp, rfl⟩ := hP rfl
  obtain ⟨_, _, d3, d4⟩ := hD
  have hm0 : R.m ≠ 0 := by
    rcases d4 with ⟨a1, a2, a3, _⟩ | ⟨_, _, b3, _⟩ <;> omega
  have hpe : p = (R.nd : Int) - R.nm := by
    rw [hp]
    unfold rfExp
    rw [k1, k3, k4, if_neg hm0]
    omega
  unfold atofF
  rw [k1, k2, if_neg hm0]
  by_cases h310 : 310 < p
  · rw [if_pos h310]
    refine ⟨infW, ?_, by unfold bigW infW; omega, Nat.le_refl _⟩
    show (bits BinOp.or .u64 (sgW neg) 9218868437227405312).toNat = wd neg infW
    cases neg <;> decide
  · rw [if_neg h310, if_neg (by rcases d4 with ⟨a1, a2, _⟩ | ⟨b1, b2, _⟩ <;> omega)]
    have hpf : ∃ x, (pfF (sgW neg) R.m p).1 = wd neg x ∧ bigW ≤ x ∧ x ≤ infW := by
      have e19 : (10 : Nat) ^ 19 = 10000000000000000000 := by decide
      refine pfF_big neg R.m p ?_ ?_ ?_
      · rcases d4 with ⟨a1, a2, a3, a4, _⟩ | ⟨_, _, b3, b4⟩
        · have : 10 ^ R.nd ≤ 10 ^ 19 := Nat.pow_le_pow_right (by decide) a1
          omega
        · omega
      · rcases d4 with ⟨a1, a2, _⟩ | ⟨b1, b2, _⟩ <;> omega
      · rcases d4 with ⟨a1, a2, a3, _⟩ | ⟨b1, b2, _⟩
        · left; omega
        · right; omega
    by_cases htr : R.tr = false
    · rw [if_pos htr]
      have hex : (exF neg R.m p).2 = false := by
        unfold exF
        have : R.m / 4503599627370496 ≠ 0 := by
          rcases d4 with ⟨a1, a2, a3, _⟩ | ⟨_, _, b3, _⟩ <;> omega
        rw [if_pos this]
      rw [hex, if_neg (by decide)]
      exact hpf
    · rw [if_neg htr]
      split
      · exact hpf
      · -- the slow road
        have hnd : 20 ≤ R.nd := by
          rcases d4 with ⟨_, _, _, _, _, a6⟩ | ⟨b1, _⟩
          · exact absurd a6 htr
          · exact b1
        have hG : Good (stOf s a s.size 0) := stOf_good hs 0 (by rw [k5]; omega)
        obtain ⟨f1, f2⟩ := fbBits_big hG (by rw [k6]; omega)
        obtain ⟨n, hn⟩ : ∃ n : Nat, (fbBits (stOf s a s.size 0)).1 = n := ⟨(fbBits (stOf s a s.size 0)).1.toNat, by unfold bigW at f1; omega⟩
        rw [hn] at f1 f2
        refine ⟨n, ?_, by omega, by omega⟩
        show (fbW neg (stOf s a s.size 0)).toNat = wd neg n
        unfold fbW
        rw [hn]
        cases neg
        · rfl
        · rw [if_pos rfl]
          have h := or_sign true n (by unfold infW at f2; omega)
          have hc : bits BinOp.or .u64 (n : Int) 9223372036854775808 = bits BinOp.or .u64 9223372036854775808 (n : Int) := by
            have e1 : bits .or .u64 (n : Int) ((9223372036854775808 : Nat) : Int) = ((n ||| 9223372036854775808 : Nat) : Int) := bits_or n 9223372036854775808 (by unfold infW at f2; omega) (by omega)
            have e2 : bits .or .u64 ((9223372036854775808 : Nat) : Int) (n : Int) = ((9223372036854775808 ||| n : Nat) : Int) := bits_or 9223372036854775808 n (by omega) (by unfold infW at f2; omega)
            rw [Nat.or_comm] at e1
            exact e1.trans e2.symm
          rw [hc]
          have h' : bits BinOp.or .u64 9223372036854775808 (n : Int) = ((wd true n : Nat) : Int) := h
          rw [h', Int.toNat_natCast]
end Go.Proofs.Qxb6606071aDoor.Fl
