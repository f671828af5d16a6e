import Derived.Test.Qxb6606071aDoorD10
/- floatBits: its tables, its answer. -/
namespace Go.Proofs.Qxb6606071aDoor.Fl
open Go Go.RowKit

structure PowTab (a : Nat) (w : World) : Prop where
  tab : ∃ T oT cap, T < a ∧ 8 < a ∧ w.cell? ⟨8, 0, none⟩ = some (.slice (some ⟨T, oT, none⟩) 9 cap) ∧ ∀ k, k < 9 → w.cell? ⟨T, oT + k, none⟩ = some (.int .i64 (powOf k))
theorem PowTab.below {a : Nat} {w w' : World} (h : PowTab a w) (hb : Below a w w') : PowTab a w' := by
  obtain ⟨T, oT, cap, h1, h2, h3, h4⟩ := h.tab
  exact ⟨T, oT, cap, h1, h2, (hb.cell (p := ⟨8, 0, none⟩) h2).trans h3, fun k hk => (hb.cell (p := ⟨T, oT + k, none⟩) h1).trans (h4 k hk)⟩

structure Info (G a : Nat) (w : World) : Prop where
  below : G < a
  mant : w.cell? ⟨G, 0, none⟩ = some (.int .u64 52)
  expb : w.cell? ⟨G, 1, none⟩ = some (.int .u64 11)
  bias : w.cell? ⟨G, 2, none⟩ = some (.int .i64 (-1023))
theorem Info.stay {G a : Nat} {w w' : World} (h : Info G a w) (hb : Below a w w') : Info G a w' :=
  ⟨h.below, (hb.cell (p := ⟨G, 0, none⟩) h.below).trans h.mant, (hb.cell (p := ⟨G, 1, none⟩) h.below).trans h.expb, (hb.cell (p := ⟨G, 2, none⟩) h.below).trans h.bias⟩

def jumpsTo (P : Program) (r : Code) (Q : Exit → Act → World → Prop) (J : Act → World → Prop) : Prop := ∀ a w, r.wp P (Exit.noGoto Q) a w → J a w

theorem wp_scope_two'' {P : Program} {a : Act} {w : World} {Q : Exit → Act → World → Prop} {c r1 r2 : Code} (l1 l2 : Nat) (hf1 : findLabel c l1 = some r1) (hf2 : findLabel c l2 = some r2)
    (first : ∀ J1 J2, Hid (jumpsTo P r1 Q J1) → Hid (jumpsTo P r2 Q J2) → c.wp P (jump2 l1 l2 J1 J2 Q) a w) : (Code.scope c).wp P Q a w :=
  wp_scope_two l1 l2 _ _ hf1 hf2 (first (fun a w => r1.wp P (Exit.noGoto Q) a w) (fun a w => r2.wp P (Exit.noGoto Q) a w) (hide fun _ _ h => h) (hide fun _ _ h => h)) (fun _ _ h => h) (fun _ _ h => h)

theorem rounded_range (S : Dst) (n : Nat) : 0 ≤ rounded S n ∧ rounded S n < 18446744073709551616 := by
  have := gather_range S n
  unfold rounded
  split
  · unfold IntKind.wrap; simp [IntKind.signed, IntKind.bits]; omega
  · omega
def rnd (S : Dst) : Int := if S.dp < 0 then 0 else if 20 < S.dp then 18446744073709551615 else rounded S S.dp.toNat
theorem rnd_range (S : Dst) (_ : Good S) : 0 ≤ rnd S ∧ rnd S < 18446744073709551616 := by
  have := rounded_range S S.dp.toNat
  unfold rnd
  split
  · omega
  · split <;> omega
theorem rnd_calls (S : Dst) (h : Good S) (a : Nat) (neg : Bool) (w : World) (hi : In a neg S w) :
    Calls Tryd.prog 76 #[.pointer (some ⟨a, 0, none⟩)] w fun e w' => e = .returned (.int .u64 (rnd S)) ∧ ∃ q, w' = w.drewN q := by
  unfold rnd
  by_cases h1 : S.dp < 0
  · rw [if_pos h1]; exact rounded_neg a neg h1 w hi
  · rw [if_neg h1]
    by_cases h2 : 20 < S.dp
    · rw [if_pos h2]; exact rounded_high a neg h2 w hi
    · rw [if_neg h2]
      exact rounded_any a neg h S.dp.toNat (by omega) (by omega) w hi

theorem powOf_high {n : Nat} (h : 9 ≤ n) : powOf n = 27 := by
  unfold powOf
  rw [List.getD_eq_getElem?_getD, List.getElem?_eq_none (by simp; omega)]; rfl
end Go.Proofs.Qxb6606071aDoor.Fl
