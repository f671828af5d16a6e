import Derived.Test.Qxb6606071aDoorE5
import Derived.Test.Qxb6606071aDoorD6
/- decimal.set at digits with at most one point. -/
namespace Go.Proofs.Qxb6606071aDoor.Fl
open Go Go.RowKit

def st0 : Dst := ⟨fun _ => 0, 0, 0, false⟩
def stStep (S : Dst) (c : Nat) : Dst :=
  if c = 46 then ⟨S.D, S.nd, S.nd, S.tr⟩
  else if c = 48 ∧ S.nd = 0 then ⟨S.D, S.nd, S.dp - 1, S.tr⟩
  else if S.nd < 800 then ⟨put S.D S.nd c, S.nd + 1, S.dp, S.tr⟩
  else ⟨S.D, S.nd, S.dp, if c = 48 then S.tr else true⟩
def stRun (s : ByteArray) : Nat → Nat → Dst × Bool → Dst × Bool
  | 0, _, R => R
  | f + 1, i, R => if h : i < s.size then stRun s f (i + 1) (stStep R.1 (s[i]'h).toNat, R.2 || decide ((s[i]'h).toNat = 46)) else R
def stAll (s : ByteArray) (a m : Nat) : Dst × Bool := stRun s (m - a) a (st0, false)
def stDp (R : Dst × Bool) : Int := if R.2 then R.1.dp else R.1.nd
/-- the decimal that the text gives. -/
def stOf (s : ByteArray) (a m : Nat) (X : Int) : Dst := ⟨(stAll s a m).1.D, (stAll s a m).1.nd, stDp (stAll s a m) + X, (stAll s a m).1.tr⟩

structure STok (i : Nat) (S : Dst) : Prop where
  nd : S.nd ≤ 800
  dp : -(i : Int) ≤ S.dp ∧ S.dp ≤ i
  ndi : S.nd ≤ i
  dig : ∀ j, j < S.nd → 48 ≤ S.D j ∧ S.D j ≤ 57
  lead : S.nd ≠ 0 → 49 ≤ S.D 0
theorem STok.start (a : Nat) : STok a st0 := ⟨by decide, by show -(a : Int) ≤ 0 ∧ (0 : Int) ≤ a; omega, Nat.zero_le _, fun j hj => absurd hj (Nat.not_lt_zero _), fun h => absurd rfl h⟩
theorem STok.step {i : Nat} {S : Dst} (h : STok i S) (c : Nat) (hx : c = 46 ∨ (48 ≤ c ∧ c ≤ 57)) : STok (i + 1) (stStep S c) := by
  obtain ⟨h1, h2, h3, h4, h5⟩ := h
  unfold stStep
  split
  · exact ⟨h1, by show -((i + 1 : Nat) : Int) ≤ (S.nd : Int) ∧ (S.nd : Int) ≤ ((i + 1 : Nat) : Int); omega, by show S.nd ≤ i + 1; omega, h4, h5⟩
  · split
    · exact ⟨h1, by show -((i + 1 : Nat) : Int) ≤ S.dp - 1 ∧ S.dp - 1 ≤ ((i + 1 : Nat) : Int); omega, by show S.nd ≤ i + 1; omega, h4, h5⟩
    · split
      · refine ⟨by show S.nd + 1 ≤ 800; omega, by show -((i + 1 : Nat) : Int) ≤ S.dp ∧ S.dp ≤ ((i + 1 : Nat) : Int); omega, by show S.nd + 1 ≤ i + 1; omega, ?_, ?_⟩
        · intro j hj
          show 48 ≤ put S.D S.nd c j ∧ put S.D S.nd c j ≤ 57
          unfold put
          split
          · omega
          · exact h4 j (by have : j < S.nd + 1 := hj; omega)
        · intro _
          show 49 ≤ put S.D S.nd c 0
          unfold put
          split
          · omega
          · exact h5 (by omega)
      · exact ⟨h1, by show -((i + 1 : Nat) : Int) ≤ S.dp ∧ S.dp ≤ ((i + 1 : Nat) : Int); omega, by show S.nd ≤ i + 1; omega, h4, h5⟩
theorem stRun_ok {s : ByteArray} {a m : Nat} {neg : Bool} (hs : NumText s a m neg) : ∀ (f i : Nat) (R : Dst × Bool), a ≤ i → i + f = m → STok i R.1 → STok m (stRun s f i R).1
  | 0, i, R, _, h, hR => by obtain rfl : i = m := by omega
                            exact hR
  | f + 1, i, R, ha, h, hR => by
    have hl := hs.le
    have hi : i < s.size := by omega
    unfold stRun
    rw [dif_pos hi]
    exact stRun_ok hs f (i + 1) _ (by omega) (by omega) (hR.step _ (hs.all i hi ha (by omega)))
theorem stAll_ok {s : ByteArray} {a m : Nat} {neg : Bool} (hs : NumText s a m neg) : STok m (stAll s a m).1 := by
  have h1 := hs.am
  exact stRun_ok hs (m - a) a (st0, false) (Nat.le_refl _) (by omega) (STok.start a)
theorem stOf_good {s : ByteArray} {a m : Nat} {neg : Bool} (hs : NumText s a m neg) (X : Int) : (stOf s a m X).nd ≠ 0 → Good (stOf s a m X) := by
  have h := stAll_ok hs
  intro hn
  have e1 : (stOf s a m X).nd = (stAll s a m).1.nd := rfl
  have e2 : (stOf s a m X).D = (stAll s a m).1.D := rfl
  rw [e1] at hn
  exact ⟨by rw [e1]; omega, by rw [e1]; exact h.nd, by rw [e1, e2]; exact h.dig, by rw [e2]; exact h.lead hn⟩
end Go.Proofs.Qxb6606071aDoor.Fl
