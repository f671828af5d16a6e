import Derived.Test.Qxb6606071aDoorD6
/- shouldRoundUp. -/
namespace Go.Proofs.Qxb6606071aDoor.Fl
open Go.RowKit

/-- is the digit at n, and what follows, more than half? -/
def roundsUp (S : Dst) (n : Nat) : Bool :=
  if S.nd ≤ n then false
  else if S.D n = 53 ∧ n + 1 = S.nd then (if S.tr then true else decide (1 ≤ n) && decide ((S.D (n - 1) - 48) % 2 ≠ 0))
  else decide (53 ≤ S.D n)

set_option maxHeartbeats 2000000 in
set_option maxRecDepth 100000 in
theorem roundsUp_any (a : Nat) (neg : Bool) {S : Dst} (hS : Good S) (n : Nat) (hn : n ≤ 1000) (w : World) (h : In a neg S w) :
    Calls Tryd.prog 86 #[.pointer (some ⟨a, 0, none⟩), .int .i64 n] w fun e w' => e = .returned (.bool (roundsUp S n)) ∧ ∃ q, w' = w.drewN q := by
  have cn := h.nd
  have ct := h.tr
  have h8 := hS.n8
  unfold roundsUp
  by_cases h1 : S.nd ≤ n
  · rw [if_pos h1]
    have h1z : (S.nd : Int) ≤ (n : Int) := by omega
    go_enter Tryd.func86, Tryd.ntmps86
    go_wp2
    go_ret
    exact ⟨rfl, 0, rfl⟩
  · rw [if_neg h1]
    have h1z : ¬ ((S.nd : Int) ≤ (n : Int)) := by omega
    have hd := hS.dig n (by omega)
    have cd := h.dig n (by omega)
    have hn8 : (n : Int) < 800 := by omega
    by_cases h2 : S.D n = 53
    · rw [h2] at cd
      by_cases h3 : n + 1 = S.nd
      · have h3z : (n : Int) + 1 = (S.nd : Int) := by omega
        rw [if_pos ⟨h2, h3⟩]
        cases htr : S.tr
        · rw [htr] at ct
          by_cases hn0 : n = 0
          · have hnz : ¬ ((0 : Int) < (n : Int)) := by omega
            have hb : (if false = true then true else decide (1 ≤ n) && decide ((S.D (n - 1) - 48) % 2 ≠ 0)) = false := by
              rw [if_neg (by decide), decide_eq_false (by omega)]; rfl
            rw [hb]
            clear hb hn0 h3 h1 h2 hd htr
            go_enter Tryd.func86, Tryd.ntmps86
            go_wp2
            go_ret
            exact ⟨rfl, 0, rfl⟩
          · obtain ⟨m, rfl⟩ : ∃ m, n = m + 1 := ⟨n - 1, by omega⟩
            have hd1 := hS.dig m (by omega)
            have cd1 := h.dig m (by omega)
            have hb : (if false = true then true else decide (1 ≤ m + 1) && decide ((S.D (m + 1 - 1) - 48) % 2 ≠ 0)) = ((S.D m - 48) % 2 != 0) := by
              rw [if_neg (by decide), decide_eq_true (by omega), Nat.add_sub_cancel, Bool.true_and]
              by_cases hz : (S.D m - 48) % 2 = 0
              · rw [hz]; rfl
              · simp [hz]
            rw [hb]
            go_enter Tryd.func86, Tryd.ntmps86
            go_wp2
            go_ret
            exact ⟨rfl, 0, rfl⟩
        · rw [htr] at ct
          go_enter Tryd.func86, Tryd.ntmps86
          go_wp2
          go_ret
          exact ⟨rfl, 0, rfl⟩
      · have h3z : ¬ ((n : Int) + 1 = (S.nd : Int)) := by omega
        rw [if_neg (by omega)]
        go_enter Tryd.func86, Tryd.ntmps86
        go_wp2
        go_ret
        exact ⟨rfl, 0, rfl⟩
    · rw [if_neg (by omega)]
      go_enter Tryd.func86, Tryd.ntmps86
      go_wp2
      go_ret
      exact ⟨rfl, 0, rfl⟩

end Go.Proofs.Qxb6606071aDoor.Fl
