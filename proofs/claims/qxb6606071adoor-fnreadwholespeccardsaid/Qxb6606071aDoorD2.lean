import Derived.Test.Qxb6606071aDoorD1
/- prefixIsLessThan. -/
namespace Go.Proofs.Qxb6606071aDoor.Fl
open Go.RowKit

theorem drewN_add (w : World) (a : Nat) : ∀ b, (w.drewN a).drewN b = w.drewN (a + b)
  | 0 => rfl
  | b + 1 => congrArg World.drew (drewN_add w a b)

/-- is the head of the digits, from place i on, below the text s? (fuel first) -/
def prefLess (D : Nat → Int) (nd : Nat) (s : ByteArray) : Nat → Nat → Bool
  | 0, _ => false
  | f + 1, i => if h : i < s.size then (if nd ≤ i then true else if D i = ((s[i]'h).toNat : Int) then prefLess D nd s f (i + 1) else decide (D i < ((s[i]'h).toNat : Int))) else false

set_option maxHeartbeats 4000000 in
set_option maxRecDepth 100000 in
theorem prefLess_any (a : Nat) (D : Nat → Int) (nd : Nat) (s : ByteArray) (w : World) (hd : ∀ i, i < 800 → w.cell? ⟨a, i, none⟩ = some (.int .u8 (D i))) (hnd : nd ≤ 800) :
    Calls Tryd.prog 91 #[.slice (some ⟨a, 0, none⟩) nd 800, .string s] w fun e w' => e = .returned (.bool (prefLess D nd s s.size 0)) ∧ ∃ q, w' = w.drewN q := by
  have HD := hide hd
  clear hd
  go_enter Tryd.func91, Tryd.ntmps91
  go_wp2
  go_loopg [5] s.size (fun gf s5 wx => ∃ i : Nat, i + gf = s.size ∧ s5 = .int .i64 i ∧ prefLess D nd s gf i = prefLess D nd s s.size 0 ∧ ∃ q, wx = w.drewN q)
  case atStart => exact ⟨0, by omega, rfl, rfl, 0, rfl⟩
  case round =>
    obtain ⟨i, hig, rfl, hp, q, rfl⟩ := hrel
    cases gk with
    | zero =>
      have hiz : ¬ ((i : Int) < (s.size : Int)) := by omega
      have HP := hide (show prefLess D nd s s.size 0 = false from hp.symm)
      clear hp
      go_wp2
      go_ret
      exact ⟨by rw [unhide HP]; rfl, q, rfl⟩
    | succ g =>
      have hi : i < s.size := by omega
      have hiz : (i : Int) < (s.size : Int) := by omega
      by_cases hn : nd ≤ i
      · have HP := hide (show prefLess D nd s s.size 0 = true by rw [← hp]; unfold prefLess; rw [dif_pos hi, if_pos hn])
        have hnz : (nd : Int) ≤ (i : Int) := by omega
        clear hp
        go_wp2
        go_ret
        exact ⟨by rw [unhide HP]; rfl, q, rfl⟩
      · have hnz : (i : Int) < (nd : Int) := by omega
        have hc : w.cell? ⟨a, i, none⟩ = some (.int .u8 (D i)) := unhide HD i (by omega)
        obtain ⟨x, hx⟩ : ∃ x : UInt8, s[i]'hi = x := ⟨_, rfl⟩
        by_cases he : D i = (x.toNat : Int)
        · have HP := hide (show prefLess D nd s g (i + 1) = prefLess D nd s s.size 0 by
            rw [← hp]; conv => rhs; unfold prefLess
            rw [dif_pos hi, if_neg hn, hx, if_pos he])
          rw [he] at hc
          clear hp
          go_wp2
          go_quiet (fail)
          go_wp2
          go_roundg g
          case measure => omega
          case rel => exact ⟨i + 1, by omega, by go_num, unhide HP, _, rfl⟩
        · have HP := hide (show prefLess D nd s s.size 0 = decide (D i < (x.toNat : Int)) by
            rw [← hp]; conv => lhs; unfold prefLess
            rw [dif_pos hi, if_neg hn, hx, if_neg he])
          have hez : (D i == (x.toNat : Int)) = false := by simpa using he
          clear hp
          go_wp2
          go_quiet (fail)
          go_wp2
          go_quiet (fail)
          go_wp2
          go_ret
          exact ⟨by rw [unhide HP]; rfl, _, by rw [drewN_add, drewN_add]⟩
end Go.Proofs.Qxb6606071aDoor.Fl
