import Derived.Test.Qxb6606071aDoorD8
import Derived.ScopeJumps
import Derived.WalkMore
/- A scope with two labels, both jumped to forward; RoundedInteger at every point. -/
namespace Go.Proofs.Qxb6606071aDoor.Fl
open Go Go.RowKit

/-- As Q; by a goto to l1: J1; to l2: J2; by any other goto: no way out. -/
def jump2 (l1 l2 : Nat) (J1 J2 : Act → World → Prop) (Q : Exit → Act → World → Prop) : Exit → Act → World → Prop
  | .goto l', a, w => (l' = l1 ∧ J1 a w) ∨ (l' = l2 ∧ J2 a w)
  | e, a, w => Q e a w

theorem wp_scope_two {P : Program} {a : Act} {w : World} {Q : Exit → Act → World → Prop} {c r1 r2 : Code} (l1 l2 : Nat) (J1 J2 : Act → World → Prop) (hf1 : findLabel c l1 = some r1) (hf2 : findLabel c l2 = some r2)
    (first : c.wp P (jump2 l1 l2 J1 J2 Q) a w)
    (pass1 : ∀ a w, J1 a w → r1.wp P (Exit.noGoto Q) a w) (pass2 : ∀ a w, J2 a w → r2.wp P (Exit.noGoto Q) a w) : (Code.scope c).wp P Q a w := by
  intro b k cs
  have key : ∀ (l : Nat) (rest : Code) (a : Act) (w : World), findLabel c l = some rest → rest.wp P (Exit.noGoto Q) a w → ∃ e a' w', Q e a' w' ∧ Arrives P (lone (b.at a (.code rest :: .inScope c :: k)) cs w) b k cs e a' w' := by
    intro l rest a w hf hp
    obtain ⟨e, a₁, w₁, hq, harr⟩ := hp b (.inScope c :: k) cs
    cases e with
    | normal => exact ⟨.normal, a₁, w₁, hq, Steps.trans harr (.one step_inScope)⟩
    | exit id => exact ⟨.exit id, a₁, w₁, hq, fun k' hk => harr k' (by simp [exitTo, hk])⟩
    | goto l' => exact hq.elim
    | ret => exact ⟨_, a₁, w₁, hq, harr⟩
    | panic ch => exact ⟨_, a₁, w₁, hq, harr⟩
    | outgrown => exact ⟨_, a₁, w₁, hq, harr⟩
  obtain ⟨e, a₁, w₁, hq, harr⟩ := first b (.inScope c :: k) cs
  cases e with
  | normal => exact ⟨.normal, a₁, w₁, hq, .head step_scope (Steps.trans harr (.one step_inScope))⟩
  | exit id => exact ⟨.exit id, a₁, w₁, hq, fun k' hk => .head step_scope (harr k' (by simp [exitTo, hk]))⟩
  | goto l' =>
    rcases hq with ⟨rfl, hJ⟩ | ⟨rfl, hJ⟩
    · have hg : gotoIn l' (.inScope c :: k) = some (.code r1 :: .inScope c :: k) := by simp [gotoIn, hf1]
      obtain ⟨e₂, a₂, w₂, hq₂, harr₂⟩ := key l' r1 a₁ w₁ hf1 (pass1 a₁ w₁ hJ)
      exact ⟨e₂, a₂, w₂, hq₂, .of_steps (.head step_scope (harr _ hg)) harr₂⟩
    · have hg : gotoIn l' (.inScope c :: k) = some (.code r2 :: .inScope c :: k) := by simp [gotoIn, hf2]
      obtain ⟨e₂, a₂, w₂, hq₂, harr₂⟩ := key l' r2 a₁ w₁ hf2 (pass2 a₁ w₁ hJ)
      exact ⟨e₂, a₂, w₂, hq₂, .of_steps (.head step_scope (harr _ hg)) harr₂⟩
  | ret => exact ⟨_, a₁, w₁, hq, .of_steps (.one step_scope) harr⟩
  | panic ch => exact ⟨_, a₁, w₁, hq, .of_steps (.one step_scope) harr⟩
  | outgrown => exact ⟨_, a₁, w₁, hq, .of_steps (.one step_scope) harr⟩

set_option maxHeartbeats 2000000 in
set_option maxRecDepth 100000 in
theorem roundsUp_neg (a : Nat) (n : Int) (hn : n < 0) (w : World) :
    Calls Tryd.prog 86 #[.pointer (some ⟨a, 0, none⟩), .int .i64 n] w fun e w' => e = .returned (.bool false) ∧ w' = w := by
  go_enter Tryd.func86, Tryd.ntmps86
  go_wp2
  go_ret
  exact ⟨rfl, rfl⟩

set_option maxHeartbeats 2000000 in
set_option maxRecDepth 100000 in
theorem rounded_neg (a : Nat) (neg : Bool) {S : Dst} (hdp : S.dp < 0) (w : World) (h : In a neg S w) :
    Calls Tryd.prog 76 #[.pointer (some ⟨a, 0, none⟩)] w fun e w' => e = .returned (.int .u64 0) ∧ ∃ q, w' = w.drewN q := by
  have cp := h.dp
  have HR := hide (roundsUp_neg a S.dp hdp)
  have hz0 : ¬ ((0 : Int) < S.dp) := by omega
  have hz20 : ¬ ((20 : Int) < S.dp) := by omega
  clear h
  go_enter Tryd.func76, Tryd.ntmps76
  go_wp2
  go_loopg [3, 4] 0 (fun gf s3 s4 wx => s3 = .int .i64 0 ∧ s4 = .int .u64 0 ∧ wx = w)
  case atStart => exact ⟨rfl, rfl, rfl⟩
  case round =>
    obtain ⟨rfl, rfl, rfl⟩ := hrel
    go_wp2
    go_loopg [3, 4] 0 (fun gf s3 s4 wx => s3 = .int .i64 0 ∧ s4 = .int .u64 0 ∧ wx = wr)
    case atStart => exact ⟨rfl, rfl, rfl⟩
    case round =>
      obtain ⟨rfl, rfl, rfl⟩ := hrel
      go_wp2_with (go_at_call 86; refine (unhide HR _).mono ?_; rintro e w' ⟨rfl, hw⟩; obtain rfl := hw.symm)
      go_ret
      exact ⟨rfl, 0, rfl⟩

set_option maxHeartbeats 2000000 in
set_option maxRecDepth 100000 in
theorem rounded_high (a : Nat) (neg : Bool) {S : Dst} (hdp : 20 < S.dp) (w : World) (h : In a neg S w) :
    Calls Tryd.prog 76 #[.pointer (some ⟨a, 0, none⟩)] w fun e w' => e = .returned (.int .u64 18446744073709551615) ∧ ∃ q, w' = w.drewN q := by
  have cp := h.dp
  clear h
  go_enter Tryd.func76, Tryd.ntmps76
  go_wp2
  go_ret
  exact ⟨rfl, 0, rfl⟩

theorem gather_range (S : Dst) : ∀ i, 0 ≤ gather S i ∧ gather S i < 18446744073709551616
  | 0 => by unfold gather; omega
  | i + 1 => by
    unfold gather
    have hw : ∀ z : Int, 0 ≤ IntKind.u64.wrap z ∧ IntKind.u64.wrap z < 18446744073709551616 := fun z => by
      unfold IntKind.wrap
      simp [IntKind.signed, IntKind.bits]
      omega
    split <;> exact hw _

/-- RoundedInteger at every decimal in order. -/
theorem roundedInteger_any (S : Dst) (hS : Good S) : ∃ v : Int, 0 ≤ v ∧ v < 18446744073709551616 ∧ ∀ (a : Nat) (neg : Bool) (w : World), In a neg S w →
    Calls Tryd.prog 76 #[.pointer (some ⟨a, 0, none⟩)] w fun e w' => e = .returned (.int .u64 v) ∧ ∃ q, w' = w.drewN q := by
  by_cases h1 : S.dp < 0
  · exact ⟨0, by omega, by omega, fun a neg w h => rounded_neg a neg h1 w h⟩
  · by_cases h2 : 20 < S.dp
    · exact ⟨18446744073709551615, by omega, by omega, fun a neg w h => rounded_high a neg h2 w h⟩
    · obtain ⟨n, hn⟩ : ∃ n : Nat, S.dp = n := ⟨S.dp.toNat, by omega⟩
      refine ⟨rounded S n, ?_, ?_, fun a neg w h => rounded_any a neg hS n (by omega) hn w h⟩
      · unfold rounded
        have := gather_range S n
        split
        · unfold IntKind.wrap; simp [IntKind.signed, IntKind.bits]; omega
        · omega
      · unfold rounded
        have := gather_range S n
        split
        · unfold IntKind.wrap; simp [IntKind.signed, IntKind.bits]; omega
        · omega
end Go.Proofs.Qxb6606071aDoor.Fl
