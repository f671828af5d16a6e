import Derived.Test.Qxb6606071aDoorE1
import Derived.Test.Qxb6606071aDoorD1
import GoSem.PinnedTables
/- strconv's fast road: uscale, prescale. -/
namespace Go.Proofs.Qxb6606071aDoor.Fl
open Go Go.RowKit

theorem and63 (s : Nat) (h : s < 64) : bits BinOp.and .i64 (s : Int) 63 = s := by
  have : ∀ t : Fin 64, bits BinOp.and .i64 ((t.val : Nat) : Int) 63 = (t.val : Nat) := by decide +kernel
  exact this ⟨s, h⟩
theorem bitsU_range (op : BinOp) (x y : Int) : 0 ≤ bits op .u64 x y ∧ bits op .u64 x y < 18446744073709551616 := wrapU_range _

theorem mulHi_range (x y : Int) (hx : 0 ≤ x ∧ x < 18446744073709551616) (hy : 0 ≤ y ∧ y < 18446744073709551616) : 0 ≤ x * y / 18446744073709551616 ∧ x * y / 18446744073709551616 < 18446744073709551616 := by
  have h1 : 0 ≤ x * y := Int.mul_nonneg hx.1 hy.1
  have h2 : x * y ≤ x * 18446744073709551616 := Int.mul_le_mul_of_nonneg_left (by omega) hx.1
  omega

/-- a product's upper and lower word. -/
def mh (x y : Int) : Int := x * y / 18446744073709551616
def ml (x y : Int) : Int := IntKind.u64.wrap (x * y)
theorem mul64_at (x y : Int) (hx : 0 ≤ x ∧ x < 18446744073709551616) (hy : 0 ≤ y ∧ y < 18446744073709551616) (w : World) :
    Calls Tryd.prog 83 #[.int .u64 x, .int .u64 y] w fun e w' => e = .returned (.tuple #[.int .u64 (mh x y), .int .u64 (ml x y)]) ∧ w' = w := mul64_any x y hx hy w

/-- uscale's answer. -/
def uscaleF (x hi lo : Int) (s : Nat) : Int :=
  if IntKind.u64.wrap (mh x hi / 2 ^ s * 2 ^ s) = mh x hi then
    bits BinOp.or .u64 (IntKind.u64.wrap (mh x hi - boolI (decide (ml x hi < mh x lo))) / 2 ^ s) (boolI (decide (1 < IntKind.u64.wrap (ml x hi - mh x lo))))
  else bits BinOp.or .u64 (mh x hi / 2 ^ s) 1
theorem uscaleF_range (x hi lo : Int) (s : Nat) : 0 ≤ uscaleF x hi lo s ∧ uscaleF x hi lo s < 18446744073709551616 := by
  unfold uscaleF
  split <;> exact bitsU_range _ _ _

set_option maxHeartbeats 1000000 in
set_option maxRecDepth 100000 in
theorem uscale_any (x hi lo : Int) (hx : 0 ≤ x ∧ x < 18446744073709551616) (h1 : 0 ≤ hi ∧ hi < 18446744073709551616) (h2 : 0 ≤ lo ∧ lo < 18446744073709551616) (s : Nat) (hs : s < 64) (c : Nat) (w : World)
   (c0 : w.cell? ⟨c, 0, none⟩ = some (.int .u64 hi)) (c1 : w.cell? ⟨c, 1, none⟩ = some (.int .u64 lo)) (c2 : w.cell? ⟨c, 2, none⟩ = some (.int .i64 s)) :
  Calls Tryd.prog 70 #[.int .u64 x, .pointer (some ⟨c, 0, none⟩)] w fun e w' => e = .returned (.int .u64 (uscaleF x hi lo s)) ∧ ∃ q, w' = w.drewN q := by
  have h63 := and63 s hs
  have HB := hide bool2U_any
  have HM := hide (fun y hy => mul64_at x y hx hy w)
  have H1 := hide h1
  have H2 := hide h2
  clear h1 h2 hx
  unfold uscaleF
  by_cases hne : IntKind.u64.wrap (mh x hi / 2 ^ s * 2 ^ s) = mh x hi
  · rw [if_pos hne]
    go_enter Tryd.func70, Tryd.ntmps70
    go_wp2_with (first | (go_at_call 83; refine (unhide HM _ (by first | exact unhide H1 | exact unhide H2)).mono ?_; rintro e w' ⟨rfl, hw⟩; obtain rfl := hw.symm) | (go_at_call 55; refine (unhide HB _ _).mono ?_; rintro e w' ⟨rfl, hw⟩; obtain rfl := hw.symm))
    go_quiet (exact Calls.quiet_of_same (unhide HB _ _))
    go_wp2
    go_ret
    exact ⟨rfl, _, rfl⟩
  · rw [if_neg hne]
    go_enter Tryd.func70, Tryd.ntmps70
    go_wp2_with (go_at_call 83; refine (unhide HM _ (unhide H1)).mono ?_; rintro e w' ⟨rfl, hw⟩; obtain rfl := hw.symm)
    go_ret
    exact ⟨rfl, 0, rfl⟩

/-- pow10Tab. -/
def ptHi (n : Nat) : Int := ((Go.Pinned.pow10Rows.getD n (0, 0)).1 : Nat)
def ptLo (n : Nat) : Int := ((Go.Pinned.pow10Rows.getD n (0, 0)).2 : Nat)
structure Pow10 (w : World) : Prop where
  hi : ∀ n, n < 696 → w.cell? ⟨11, n * 2, none⟩ = some (.int .u64 (ptHi n))
  lo : ∀ n, n < 696 → w.cell? ⟨11, n * 2 + 1, none⟩ = some (.int .u64 (ptLo n))

theorem pt_range (n : Nat) (hn : n < 696) : (0 ≤ ptHi n ∧ ptHi n < 18446744073709551616) ∧ (0 ≤ ptLo n ∧ ptLo n < 18446744073709551616) := by
  have hall : ((List.range 696).all fun n => decide (0 ≤ ptHi n) && decide (ptHi n < 18446744073709551616) && decide (0 ≤ ptLo n) && decide (ptLo n < 18446744073709551616)) = true := by decide +kernel
  have := List.all_eq_true.1 hall n (List.mem_range.2 hn)
  simp only [Bool.and_eq_true, decide_eq_true_eq] at this
  exact ⟨⟨this.1.1.1, this.1.1.2⟩, this.1.2, this.2⟩

/-- a scaler at block a. -/
structure ScalAt (a : Nat) (hi lo s : Int) (w : World) : Prop where
  c0 : w.cell? ⟨a, 0, none⟩ = some (.int .u64 hi)
  c1 : w.cell? ⟨a, 1, none⟩ = some (.int .u64 lo)
  c2 : w.cell? ⟨a, 2, none⟩ = some (.int .i64 s)
  f0 : w.frozen? ⟨a, 0, none⟩ = false
  f1 : w.frozen? ⟨a, 1, none⟩ = false
  f2 : w.frozen? ⟨a, 2, none⟩ = false

set_option maxHeartbeats 1000000 in
set_option maxRecDepth 100000 in
theorem prescale_any (a : Nat) (e p lp : Int) (he : -5000 ≤ e ∧ e ≤ 5000) (n : Nat) (hp : p = n - 348) (hn : n < 696) (hlp : -5000 ≤ lp ∧ lp ≤ 5000) (w : World) (hT : Pow10 w) (x y z : Int) (hA : ScalAt a x y z w) :
    Calls Tryd.prog 69 #[.pointer (some ⟨a, 0, none⟩), .int .i64 e, .int .i64 p, .int .i64 lp] w fun r w' => r = .returned (.tuple #[]) ∧ ScalAt a (ptHi n) (ptLo n) (-(e + lp + 3)) w' ∧ Below a w w' := by
  subst hp
  have hnl : (n : Int) < 696 := by omega
  have c0 := hT.hi n hn
  have c1 := hT.lo n hn
  have p0 := hA.c0
  have p1 := hA.c1
  have p2 := hA.c2
  have f0 := hA.f0
  have f1 := hA.f1
  have f2 := hA.f2
  have HA := hide hA
  clear hT hA
  go_enter Tryd.func69, Tryd.ntmps69
  go_wp2
  go_end0
  refine ⟨rfl, ⟨?_, ?_, ?_, ?_, ?_, ?_⟩, ?_⟩
  · rw [cell_set_off _ _ _ _ _ (by omega), cell_set_off _ _ _ _ _ (by omega)]
    exact World.cell?_setCell_same' _ _ _ (by rw [(unhide HA).c0]; rfl)
  · rw [cell_set_off _ _ _ _ _ (by omega)]
    refine World.cell?_setCell_same' _ _ _ ?_
    rw [cell_set_off _ _ _ _ _ (by omega), (unhide HA).c1]; rfl
  · refine World.cell?_setCell_same' _ _ _ ?_
    rw [cell_set_off _ _ _ _ _ (by omega), cell_set_off _ _ _ _ _ (by omega), (unhide HA).c2]; rfl
  · rw [World.frozen?_setCell, World.frozen?_setCell, World.frozen?_setCell]; exact (unhide HA).f0
  · rw [World.frozen?_setCell, World.frozen?_setCell, World.frozen?_setCell]; exact (unhide HA).f1
  · rw [World.frozen?_setCell, World.frozen?_setCell, World.frozen?_setCell]; exact (unhide HA).f2
  · exact (((Below.refl a w).setCell (p := ⟨a, 0, none⟩) (Nat.le_refl _) _).setCell (p := ⟨a, 1, none⟩) (Nat.le_refl _) _).setCell (p := ⟨a, 2, none⟩) (Nat.le_refl _) _
end Go.Proofs.Qxb6606071aDoor.Fl
