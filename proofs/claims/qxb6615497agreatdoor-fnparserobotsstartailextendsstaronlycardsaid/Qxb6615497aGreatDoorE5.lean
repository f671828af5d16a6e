import Derived.Test.Qxb6615497aGreatDoorE1
import Derived.Test.Qxb6615497aGreatDoorD1
import Derived.OwnWalk
/- digits with at most one point: special, readFloat. -/
namespace Go.Proofs.Qxb6615497aGreatDoor
open Go Go.RowKit

def dotDig (x : UInt8) : Prop := x.toNat = 46 ∨ (48 ≤ x.toNat ∧ x.toNat ≤ 57)
/-- digits, at least one, and at most one point. -/
structure NumText (s : ByteArray) : Prop where
  all : ∀ i (h : i < s.size), dotDig (s[i]'h)
  one : ∀ i j (h : i < s.size) (h2 : j < s.size), (s[i]'h).toNat = 46 → (s[j]'h2).toNat = 46 → i = j
  dig : ∃ i, ∃ h : i < s.size, (s[i]'h).toNat ≠ 46
  len : s.size ≤ 1048576
theorem NumText.pos {s : ByteArray} (h : NumText s) : 0 < s.size := by
  obtain ⟨i, hi, _⟩ := h.dig
  omega

set_option maxHeartbeats 1000000 in
set_option maxRecDepth 100000 in
theorem special_any (s : ByteArray) (hs : NumText s) (w : World) :
    Calls Tryz.prog 132 #[.string s] w fun e w' => e = .returned (.tuple #[.float .f64 0, .int .i64 0, .bool false]) ∧ w' = w := by
  have h0 := hs.pos
  obtain ⟨x, hx⟩ : ∃ x : UInt8, s[0]'h0 = x := ⟨_, rfl⟩
  have hd := hs.all 0 h0
  rw [hx] at hd
  unfold dotDig at hd
  have hz : ¬ ((s.size : Int) = 0) := by omega
  have hp : (0 : Int) < (s.size : Int) := by omega
  have n1 : ¬ ((x.toNat : Int) = 43) := by omega
  have n2 : ¬ ((x.toNat : Int) = 45) := by omega
  have n3 : ¬ ((x.toNat : Int) = 105) := by omega
  have n4 : ¬ ((x.toNat : Int) = 73) := by omega
  have n5 : ¬ ((x.toNat : Int) = 110) := by omega
  have n6 : ¬ ((x.toNat : Int) = 78) := by omega
  clear hs hd
  go_enter Tryz.func132, Tryz.ntmps132
  go_wp2
  go_ret3
  exact ⟨rfl, rfl⟩

set_option maxHeartbeats 1000000 in
theorem lower_any (c : Int) (w : World) : Calls Tryz.prog 150 #[.int .u8 c] w fun e w' => e = .returned (.int .u8 (bits BinOp.or .u8 c 32)) ∧ w' = w := by
  go_enter Tryz.func150, Tryz.ntmps150
  go_wp2
  go_ret
  exact ⟨rfl, rfl⟩

theorem results_tmp7 {fn : Func} {t0 t1 t2 t3 t4 t5 t6 : Tmp} (h : fn.results = #[.tmp t0, .tmp t1, .tmp t2, .tmp t3, .tmp t4, .tmp t5, .tmp t6]) (tmps : Array Value) (P : Program) (w : World) :
    (results fn tmps).run P w = .ok (.tuple #[tmps.getD t0 undef, tmps.getD t1 undef, tmps.getD t2 undef, tmps.getD t3 undef, tmps.getD t4 undef, tmps.getD t5 undef, tmps.getD t6 undef]) w := by
  simp [results, h]

/-- what readFloat knows. -/
structure RF where
  m : Int
  nd : Nat
  nm : Nat
  dp : Int
  dot : Bool
  dig : Bool
  tr : Bool
def rf0 : RF := ⟨0, 0, 0, 0, false, false, false⟩
def rfStep (R : RF) (c : Nat) : RF :=
  if c = 46 then ⟨R.m, R.nd, R.nm, R.nd, true, R.dig, R.tr⟩
  else if c = 48 ∧ R.nd = 0 then ⟨R.m, R.nd, R.nm, R.dp - 1, R.dot, true, R.tr⟩
  else if R.nm < 19 then ⟨IntKind.u64.wrap (IntKind.u64.wrap (R.m * 10) + ((c : Int) - 48)), R.nd + 1, R.nm + 1, R.dp, R.dot, true, R.tr⟩
  else ⟨R.m, R.nd + 1, R.nm, R.dp, R.dot, true, if c = 48 then R.tr else true⟩
def rfRun (s : ByteArray) : Nat → Nat → RF → RF
  | 0, _, R => R
  | f + 1, i, R => if h : i < s.size then rfRun s f (i + 1) (rfStep R (s[i]'h).toNat) else R
def rfAll (s : ByteArray) : RF := rfRun s s.size 0 rf0
def rfDp (R : RF) : Int := if R.dot then R.dp else R.nd
def rfExp (R : RF) : Int := if R.m = 0 then 0 else rfDp R - R.nm

/-- what holds of it ahead of byte i. -/
structure RFok (s : ByteArray) (i : Nat) (R : RF) : Prop where
  m0 : 0 ≤ R.m ∧ R.m < 18446744073709551616
  nd : R.nd ≤ i
  nm : R.nm ≤ 19
  dp : -(i : Int) ≤ R.dp ∧ R.dp ≤ i
  dot : R.dot = true → ∃ j, j < i ∧ ∃ h : j < s.size, (s[j]'h).toNat = 46
  dig : (∃ j, j < i ∧ ∃ h : j < s.size, (s[j]'h).toNat ≠ 46) → R.dig = true

theorem RFok.start (s : ByteArray) : RFok s 0 rf0 :=
  ⟨by decide, Nat.le_refl _, by decide, by decide, fun h => (by cases h), fun ⟨j, hj, _⟩ => absurd hj (Nat.not_lt_zero _)⟩

theorem RFok.step {s : ByteArray} {i : Nat} {R : RF} (h : RFok s i R) (hi : i < s.size) (hx : (s[i]'hi).toNat = 46 ∨ (48 ≤ (s[i]'hi).toNat ∧ (s[i]'hi).toNat ≤ 57)) : RFok s (i + 1) (rfStep R (s[i]'hi).toNat) := by
  obtain ⟨h1, h2, h3, h4, h5, h6⟩ := h
  unfold rfStep
  split
  · rename_i hc
    refine ⟨h1, by show R.nd ≤ i + 1; omega, h3, by show -((i + 1 : Nat) : Int) ≤ (R.nd : Int) ∧ (R.nd : Int) ≤ ((i + 1 : Nat) : Int); omega, fun _ => ⟨i, by omega, hi, hc⟩, ?_⟩
    rintro ⟨j, hj, hjs, hn⟩
    refine h6 ⟨j, ?_, hjs, hn⟩
    by_cases e : j = i
    · subst e; exact absurd hc hn
    · omega
  · rename_i hc
    have hdot : ∀ b : Bool, (b = true → ∃ j, j < i ∧ ∃ h : j < s.size, (s[j]'h).toNat = 46) → (b = true → ∃ j, j < i + 1 ∧ ∃ h : j < s.size, (s[j]'h).toNat = 46) := by
      intro b hb h
      obtain ⟨j, hj, hjs, e⟩ := hb h
      exact ⟨j, by omega, hjs, e⟩
    split
    · exact ⟨h1, by show R.nd ≤ i + 1; omega, h3, by show -((i + 1 : Nat) : Int) ≤ R.dp - 1 ∧ R.dp - 1 ≤ ((i + 1 : Nat) : Int); omega, hdot _ h5, fun _ => rfl⟩
    · split
      · exact ⟨wrapU_range _, by show R.nd + 1 ≤ i + 1; omega, by show R.nm + 1 ≤ 19; omega, by show -((i + 1 : Nat) : Int) ≤ R.dp ∧ R.dp ≤ ((i + 1 : Nat) : Int); omega, hdot _ h5, fun _ => rfl⟩
      · exact ⟨h1, by show R.nd + 1 ≤ i + 1; omega, h3, by show -((i + 1 : Nat) : Int) ≤ R.dp ∧ R.dp ≤ ((i + 1 : Nat) : Int); omega, hdot _ h5, fun _ => rfl⟩

theorem rfRun_ok {s : ByteArray} (hs : NumText s) : ∀ (f i : Nat) (R : RF), i + f = s.size → RFok s i R → RFok s s.size (rfRun s f i R)
  | 0, i, R, h, hR => by obtain rfl : i = s.size := by omega
                         exact hR
  | f + 1, i, R, h, hR => by
    have hi : i < s.size := by omega
    unfold rfRun
    rw [dif_pos hi]
    exact rfRun_ok hs f (i + 1) _ (by omega) (hR.step hi (hs.all i hi))
theorem rfAll_ok {s : ByteArray} (hs : NumText s) : RFok s s.size (rfAll s) := rfRun_ok hs s.size 0 rf0 (by omega) (RFok.start s)
end Go.Proofs.Qxb6615497aGreatDoor
