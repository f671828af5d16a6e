import Derived.Test.Qxb6615497aGreatDoorProg
import Derived.KernelRfl
import Derived.WalkKit
import Derived.WalkSpells
import Derived.WalkLawsBesides
import Derived.BigQuiet
import Derived.Deep.QuietTactic
import Derived.Deep.RegionWith
namespace Go.Proofs.Qxb6615497aGreatDoor
open Go.RowKit

/-- a fact kept out of the walk's sight. -/
def Hid (p : Prop) : Prop := p
theorem hide {p : Prop} (h : p) : Hid p := h
theorem unhide {p : Prop} (h : Hid p) : p := h

def lineEnd (r : Int) : Bool := r == 13 || r == 10
def tokenRune (r : Int) : Bool := decide ((97 ≤ r ∧ r ≤ 122) ∨ (65 ≤ r ∧ r ≤ 90) ∨ r = 95 ∨ r = 45)

theorem isLineEnd_any (r : Int) (w : World) : Calls Tryz.prog 19 #[.int .i32 r] w fun e w' => e = .returned (.bool (lineEnd r)) ∧ w' = w := by
  go_enter Tryz.func19, Tryz.ntmps19
  go_wp2
  all_goals
    go_ret
    refine ⟨?_, rfl⟩
    unfold lineEnd
    first | rfl | (congr 2; simp_all)

theorem zzIsLineEnd_any (r : Int) (w : World) : Calls Tryz.prog 9 #[.int .i32 r] w fun e w' => e = .returned (.bool (lineEnd r)) ∧ w' = w := by
  have H := hide (isLineEnd_any r w)
  go_enter Tryz.func9, Tryz.ntmps9
  go_wp2_with fail
  refine (unhide H).mono ?_
  rintro e w' ⟨rfl, rfl⟩
  clear H
  go_wp2
  go_ret
  exact ⟨rfl, rfl⟩

set_option maxHeartbeats 1000000 in
theorem isTokenRune_any (r : Int) (w : World) : Calls Tryz.prog 52 #[.int .i32 r] w fun e w' => e = .returned (.bool (tokenRune r)) ∧ w' = w := by
  rcases (show r < 45 ∨ r = 45 ∨ (46 ≤ r ∧ r ≤ 64) ∨ (65 ≤ r ∧ r ≤ 90) ∨ (91 ≤ r ∧ r ≤ 94) ∨ r = 95 ∨ r = 96 ∨ (97 ≤ r ∧ r ≤ 122) ∨ 123 ≤ r by omega) with h | h | ⟨h, h2⟩ | ⟨h, h2⟩ | ⟨h, h2⟩ | h | h | ⟨h, h2⟩ | h
  all_goals
    go_enter Tryz.func52, Tryz.ntmps52
    go_wp2
    all_goals
      go_ret
      refine ⟨?_, rfl⟩
      first
        | exact congrArg (fun b => Ending.returned (Value.bool b)) (show true = tokenRune r from (decide_eq_true (by omega)).symm)
        | exact congrArg (fun b => Ending.returned (Value.bool b)) (show false = tokenRune r from (decide_eq_false (by omega)).symm)
        | exact congrArg (fun b => Ending.returned (Value.bool b)) (show _ = tokenRune r from by unfold tokenRune; rw [Bool.eq_iff_iff]; simp; omega)

theorem notToken_any (r : Int) (w : World) : Calls Tryz.prog 51 #[.int .i32 r] w fun e w' => e = .returned (.bool (!tokenRune r)) ∧ w' = w := by
  have H := hide (isTokenRune_any r w)
  go_enter Tryz.func51, Tryz.ntmps51
  go_wp2_with fail
  refine (unhide H).mono ?_
  rintro e w' ⟨rfl, rfl⟩
  clear H
  go_wp2
  go_ret
  exact ⟨rfl, rfl⟩
end Go.Proofs.Qxb6615497aGreatDoor
