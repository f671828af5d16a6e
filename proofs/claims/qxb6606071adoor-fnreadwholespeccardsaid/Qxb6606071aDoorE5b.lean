import Derived.Test.Qxb6606071aDoorE5
import Derived.Deep.LoopGhost
/- special at a number's text. -/
namespace Go.Proofs.Qxb6606071aDoor.Fl
open Go Go.RowKit

set_option maxHeartbeats 1000000 in
set_option maxRecDepth 100000 in
theorem prefixLen_gen (t q : ByteArray) (h0 : 0 < t.size) (hq : 0 < q.size) (hql : q.size ≤ 1048576) (hl : t.size ≤ 1048576) (hd : dotDig (t[0]'h0)) (y : UInt8) (hy : q[0]'hq = y) (hy5 : y.toNat = 105) (w : World) :
    Calls Tryd.prog 64 #[.string t, .string q] w fun e w' => e = .returned (.int .i64 0) ∧ w' = w := by
  obtain ⟨x, hx⟩ : ∃ x : UInt8, t[0]'h0 = x := ⟨_, rfl⟩
  rw [hx] at hd
  unfold dotDig at hd
  have hp : (0 : Int) < (t.size : Int) := by omega
  have hq2 : (0 : Int) < (q.size : Int) := by omega
  have n1 : ¬ ((65 : Int) ≤ (x.toNat : Int)) := by omega
  have n2 : ¬ ((x.toNat : Int) = (y.toNat : Int)) := by omega
  clear hd hy5
  go_enter Tryd.func64, Tryd.ntmps64
  go_wp2
  all_goals
    go_loopg [6, 7] 1 (fun _ s6 _ wx => s6 = .int .i64 0 ∧ wx = w)
    case atStart => exact ⟨rfl, rfl⟩
    case round =>
      obtain ⟨rfl, rfl⟩ := hrel
      go_wp2
      go_ret
      exact ⟨rfl, rfl⟩

theorem prefixLen_zero (t : ByteArray) (h0 : 0 < t.size) (hl : t.size ≤ 1048576) (hd : dotDig (t[0]'h0)) (w : World) :
    Calls Tryd.prog 64 #[.string t, .string ⟨#[105, 110, 102, 105, 110, 105, 116, 121]⟩] w fun e w' => e = .returned (.int .i64 0) ∧ w' = w :=
  prefixLen_gen t ⟨#[105, 110, 102, 105, 110, 105, 116, 121]⟩ h0 (by decide) (by decide) hl hd 105 rfl rfl w

theorem ext_at (s : ByteArray) (h : 1 < s.size) : ∃ h2 : 0 < (s.extract 1 s.size).size, (s.extract 1 s.size)[0]'h2 = s[1]'h := by
  have e : (s.extract 1 s.size).size = s.size - 1 := by simp
  exact ⟨by omega, by simp [ByteArray.getElem_extract]⟩

set_option maxHeartbeats 1000000 in
set_option maxRecDepth 100000 in
theorem special_any (s : ByteArray) (a m : Nat) (neg : Bool) (hs : NumText s a m neg) (w : World) :
    Calls Tryd.prog 46 #[.string s] w fun e w' => e = .returned (.tuple #[.float .f64 0, .int .i64 0, .bool false]) ∧ w' = w := by
  obtain ⟨hA, hdA⟩ := hs.atA
  have hl := hs.len
  rcases hs.sg with ⟨rfl, _⟩ | ⟨rfl, h0, hsg⟩
  · exact special_none s hA hdA w
  · obtain ⟨x, hx⟩ : ∃ x : UInt8, s[0]'h0 = x := ⟨_, rfl⟩
    rw [hx] at hsg
    obtain ⟨t, ht⟩ : ∃ t, s.extract 1 s.size = t := ⟨_, rfl⟩
    have HP : Hid (∀ w, Calls Tryd.prog 64 #[.string t, .string ⟨#[105, 110, 102, 105, 110, 105, 116, 121]⟩] w fun e w' => e = .returned (.int .i64 0) ∧ w' = w) := by
      obtain ⟨h2, e⟩ := ext_at s hA
      subst ht
      exact fun w => prefixLen_zero _ h2 (by have : (s.extract 1 s.size).size = s.size - 1 := by simp
                                             omega) (by rw [e]; exact hdA) w
    have hz : ¬ ((s.size : Int) = 0) := by omega
    have hp : (0 : Int) < (s.size : Int) := by omega
    have h1 : (1 : Int) ≤ (s.size : Int) := by omega
    clear hs hdA
    rcases hsg with ⟨h43, _⟩ | ⟨h45, _⟩
    · have n1 : (x.toNat : Int) = 43 := by omega
      clear h43
      go_enter Tryd.func46, Tryd.ntmps46
      go_wp2_with (go_at_call 64; refine (unhide HP _).mono ?_; rintro e w' ⟨rfl, hw⟩; obtain rfl := hw.symm)
      go_ret3
      exact ⟨rfl, rfl⟩
    · have n1 : (x.toNat : Int) = 45 := by omega
      clear h45
      go_enter Tryd.func46, Tryd.ntmps46
      go_wp2_with (go_at_call 64; refine (unhide HP _).mono ?_; rintro e w' ⟨rfl, hw⟩; obtain rfl := hw.symm)
      go_ret3
      exact ⟨rfl, rfl⟩
end Go.Proofs.Qxb6606071aDoor.Fl
