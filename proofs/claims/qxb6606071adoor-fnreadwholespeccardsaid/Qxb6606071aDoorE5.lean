import Derived.Test.Qxb6606071aDoorE1
import Derived.Test.Qxb6606071aDoorD1
import Derived.OwnWalk
/- a number's text: sign, digits with at most one point, exponent. -/
namespace Go.Proofs.Qxb6606071aDoor.Fl
open Go Go.RowKit

def dotDig (x : UInt8) : Prop := x.toNat = 46 ∨ (48 ≤ x.toNat ∧ x.toNat ≤ 57)
def isDig (x : UInt8) : Prop := 48 ≤ x.toNat ∧ x.toNat ≤ 57
/-- the sign fills the a first bytes. -/
def Sg (s : ByteArray) (a : Nat) (neg : Bool) : Prop :=
  (a = 0 ∧ neg = false) ∨ (a = 1 ∧ ∃ h : 0 < s.size, ((s[0]'h).toNat = 43 ∧ neg = false) ∨ ((s[0]'h).toNat = 45 ∧ neg = true))
/-- the exponent's sign fills b bytes from i on. -/
def Es (s : ByteArray) (i b : Nat) (es : Int) : Prop :=
  (b = 0 ∧ es = 1) ∨ (b = 1 ∧ ∃ h : i < s.size, ((s[i]'h).toNat = 43 ∧ es = 1) ∨ ((s[i]'h).toNat = 45 ∧ es = -1))
/-- an exponent from m to the text's end. -/
structure Expo (s : ByteArray) (m b : Nat) (es : Int) : Prop where
  e : ∃ h : m < s.size, (s[m]'h).toNat = 101 ∨ (s[m]'h).toNat = 69
  sg : Es s (m + 1) b es
  lt : m + 1 + b < s.size
  dig : ∀ i (h : i < s.size), m + 1 + b ≤ i → isDig (s[i]'h)
/-- sign to a, digits with at most one point to m, then an exponent or nothing. -/
structure NumText (s : ByteArray) (a m : Nat) (neg : Bool) : Prop where
  sg : Sg s a neg
  am : a < m
  le : m ≤ s.size
  all : ∀ i (h : i < s.size), a ≤ i → i < m → dotDig (s[i]'h)
  one : ∀ i j (h : i < s.size) (h2 : j < s.size), a ≤ i → i < m → a ≤ j → j < m → (s[i]'h).toNat = 46 → (s[j]'h2).toNat = 46 → i = j
  dig : ∃ i, a ≤ i ∧ i < m ∧ ∃ h : i < s.size, (s[i]'h).toNat ≠ 46
  len : s.size ≤ 1048576
  ex : m = s.size ∨ ∃ b es, Expo s m b es
theorem NumText.pos {s : ByteArray} {a m : Nat} {neg : Bool} (h : NumText s a m neg) : 0 < s.size := by
  have := h.am
  have := h.le
  omega
theorem NumText.a1 {s : ByteArray} {a m : Nat} {neg : Bool} (h : NumText s a m neg) : a ≤ 1 := by
  rcases h.sg with ⟨h, _⟩ | ⟨h, _⟩ <;> omega
theorem NumText.atA {s : ByteArray} {a m : Nat} {neg : Bool} (h : NumText s a m neg) : ∃ hh : a < s.size, dotDig (s[a]'hh) := by
  have h1 := h.am
  have h2 := h.le
  exact ⟨by omega, h.all a (by omega) (Nat.le_refl _) h1⟩

set_option maxHeartbeats 1000000 in
set_option maxRecDepth 100000 in
theorem special_none (s : ByteArray) (h0 : 0 < s.size) (hd : dotDig (s[0]'h0)) (w : World) :
    Calls Tryd.prog 46 #[.string s] w fun e w' => e = .returned (.tuple #[.float .f64 0, .int .i64 0, .bool false]) ∧ w' = w := by
  obtain ⟨x, hx⟩ : ∃ x : UInt8, s[0]'h0 = x := ⟨_, rfl⟩
  rw [hx] at hd
  unfold dotDig at hd
  have hz : ¬ ((s.size : Int) = 0) := by omega
  have hp : (0 : Int) < (s.size : Int) := by omega
  have n1 : ¬ ((x.toNat : Int) = 43) := by omega
  have n2 : ¬ ((x.toNat : Int) = 45) := by omega
  have n3 : ¬ ((x.toNat : Int) = 105) := by omega
  have n4 : ¬ ((x.toNat : Int) = 73) := by omega
  have n5 : ¬ ((x.toNat : Int) = 110) := by omega
  have n6 : ¬ ((x.toNat : Int) = 78) := by omega
  clear hd
  go_enter Tryd.func46, Tryd.ntmps46
  go_wp2
  go_ret3
  exact ⟨rfl, rfl⟩

set_option maxHeartbeats 1000000 in
theorem lower_any (c : Int) (w : World) : Calls Tryd.prog 36 #[.int .u8 c] w fun e w' => e = .returned (.int .u8 (bits BinOp.or .u8 c 32)) ∧ w' = w := by
  go_enter Tryd.func36, Tryd.ntmps36
  go_wp2
  go_ret
  exact ⟨rfl, rfl⟩

theorem results_tmp7 {fn : Func} {t0 t1 t2 t3 t4 t5 t6 : Tmp} (h : fn.results = #[.tmp t0, .tmp t1, .tmp t2, .tmp t3, .tmp t4, .tmp t5, .tmp t6]) (tmps : Array Value) (P : Program) (w : World) :
    (results fn tmps).run P w = .ok (.tuple #[tmps.getD t0 undef, tmps.getD t1 undef, tmps.getD t2 undef, tmps.getD t3 undef, tmps.getD t4 undef, tmps.getD t5 undef, tmps.getD t6 undef]) w := by
  simp [results, h]

/-- what readFloat knows. -/
structure RF where
  m : Int
  nd : Nat
  nm : Nat
  dp : Int
  dot : Bool
  dig : Bool
  tr : Bool
def rf0 : RF := ⟨0, 0, 0, 0, false, false, false⟩
def rfStep (R : RF) (c : Nat) : RF :=
  if c = 46 then ⟨R.m, R.nd, R.nm, R.nd, true, R.dig, R.tr⟩
  else if c = 48 ∧ R.nd = 0 then ⟨R.m, R.nd, R.nm, R.dp - 1, R.dot, true, R.tr⟩
  else if R.nm < 19 then ⟨IntKind.u64.wrap (IntKind.u64.wrap (R.m * 10) + ((c : Int) - 48)), R.nd + 1, R.nm + 1, R.dp, R.dot, true, R.tr⟩
  else ⟨R.m, R.nd + 1, R.nm, R.dp, R.dot, true, if c = 48 then R.tr else true⟩
def rfRun (s : ByteArray) : Nat → Nat → RF → RF
  | 0, _, R => R
  | f + 1, i, R => if h : i < s.size then rfRun s f (i + 1) (rfStep R (s[i]'h).toNat) else R
def rfAll (s : ByteArray) (a m : Nat) : RF := rfRun s (m - a) a rf0
def rfDp (R : RF) : Int := if R.dot then R.dp else R.nd
def rfExp (R : RF) (X : Int) : Int := if R.m = 0 then 0 else rfDp R + X - R.nm

/-- what holds of it ahead of byte i. -/
structure RFok (s : ByteArray) (a i : Nat) (R : RF) : Prop where
  m0 : 0 ≤ R.m ∧ R.m < 18446744073709551616
  nd : R.nd ≤ i
  nm : R.nm ≤ 19
  dp : -(i : Int) ≤ R.dp ∧ R.dp ≤ i
  dot : R.dot = true → ∃ j, a ≤ j ∧ j < i ∧ ∃ h : j < s.size, (s[j]'h).toNat = 46
  dig : (∃ j, a ≤ j ∧ j < i ∧ ∃ h : j < s.size, (s[j]'h).toNat ≠ 46) → R.dig = true

theorem RFok.start (s : ByteArray) (a : Nat) : RFok s a a rf0 :=
  ⟨by decide, Nat.zero_le _, by decide, by show -(a : Int) ≤ 0 ∧ (0 : Int) ≤ a; omega, fun h => (by cases h), fun ⟨j, hj, hj2, _⟩ => absurd hj (by omega)⟩

theorem RFok.step {s : ByteArray} {a i : Nat} {R : RF} (h : RFok s a i R) (hai : a ≤ i) (hi : i < s.size) : RFok s a (i + 1) (rfStep R (s[i]'hi).toNat) := by
  obtain ⟨h1, h2, h3, h4, h5, h6⟩ := h
  unfold rfStep
  split
  · rename_i hc
    refine ⟨h1, by show R.nd ≤ i + 1; omega, h3, by show -((i + 1 : Nat) : Int) ≤ (R.nd : Int) ∧ (R.nd : Int) ≤ ((i + 1 : Nat) : Int); omega, fun _ => ⟨i, hai, by omega, hi, hc⟩, ?_⟩
    rintro ⟨j, hja, hj, hjs, hn⟩
    refine h6 ⟨j, hja, ?_, hjs, hn⟩
    by_cases e : j = i
    · subst e; exact absurd hc hn
    · omega
  · rename_i hc
    have hdot : ∀ b : Bool, (b = true → ∃ j, a ≤ j ∧ j < i ∧ ∃ h : j < s.size, (s[j]'h).toNat = 46) → (b = true → ∃ j, a ≤ j ∧ j < i + 1 ∧ ∃ h : j < s.size, (s[j]'h).toNat = 46) := by
      intro b hb h
      obtain ⟨j, hja, hj, hjs, e⟩ := hb h
      exact ⟨j, hja, by omega, hjs, e⟩
    split
    · exact ⟨h1, by show R.nd ≤ i + 1; omega, h3, by show -((i + 1 : Nat) : Int) ≤ R.dp - 1 ∧ R.dp - 1 ≤ ((i + 1 : Nat) : Int); omega, hdot _ h5, fun _ => rfl⟩
    · split
      · exact ⟨wrapU_range _, by show R.nd + 1 ≤ i + 1; omega, by show R.nm + 1 ≤ 19; omega, by show -((i + 1 : Nat) : Int) ≤ R.dp ∧ R.dp ≤ ((i + 1 : Nat) : Int); omega, hdot _ h5, fun _ => rfl⟩
      · exact ⟨h1, by show R.nd + 1 ≤ i + 1; omega, h3, by show -((i + 1 : Nat) : Int) ≤ R.dp ∧ R.dp ≤ ((i + 1 : Nat) : Int); omega, hdot _ h5, fun _ => rfl⟩

theorem rfRun_ok {s : ByteArray} {a : Nat} : ∀ (f i : Nat) (R : RF), a ≤ i → i + f ≤ s.size → RFok s a i R → RFok s a (i + f) (rfRun s f i R)
  | 0, i, R, _, _, hR => hR
  | f + 1, i, R, ha, h, hR => by
    have hi : i < s.size := by omega
    unfold rfRun
    rw [dif_pos hi, show i + (f + 1) = i + 1 + f by omega]
    exact rfRun_ok f (i + 1) _ (by omega) (by omega) (hR.step ha hi)
theorem rfAll_ok {s : ByteArray} {a m : Nat} {neg : Bool} (hs : NumText s a m neg) : RFok s a m (rfAll s a m) := by
  have h1 := hs.am
  have h2 := hs.le
  have := rfRun_ok (s := s) (a := a) (m - a) a rf0 (Nat.le_refl _) (by omega) (RFok.start s a)
  rw [show a + (m - a) = m by omega] at this
  exact this
end Go.Proofs.Qxb6606071aDoor.Fl
