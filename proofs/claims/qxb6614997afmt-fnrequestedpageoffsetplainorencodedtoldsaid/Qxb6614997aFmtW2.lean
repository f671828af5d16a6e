import Derived.Test.Qxb6614997aFmtW1
import Derived.Stop.CallBack
import Derived.Stop.IfaceNil
import GoSem.ClaimData
import Derived.Below
/- THE CLOSED FACTS FOR A WALK OVER fmt.errorf (function 23), as the guide's CheckFmt.lean has them; and the functions that refuse. -/
namespace Go.Proofs.Qxb6614997aFmt
open Go.RowKit Go.Extern.Stop Go.Stop Go.Extern

theorem Tryf.call23 (args : Array Value) (w : World) : (callFunc 23 args).run Tryf.prog w = ((FmtStop.errorf #[9, 56] #[24] args).run Tryf.prog w).andThen fun v w' => .ok (.value v) w' :=
  run_callFunc_extern Tryf.func23 (by kernel_rfl) (by kernel_rfl) (by kernel_rfl) (by kernel_rfl) args w
theorem Tryf.guard (name : String) (w : World) : (FmtStop.guard name).run Tryf.prog w = .ok () w := by kernel_rfl
theorem Tryf.fmt0 : FmtStop.printed? ⟨#[37, 115, 32, 109, 117, 115, 116, 32, 110, 111, 116, 32, 98, 101, 32, 110, 101, 103, 97, 116, 105, 118, 101]⟩ 1 = some [(0, 115, false)] := by kernel_rfl
theorem Tryf.fmt0r (w : World) : (FmtDoors.printed ⟨#[37, 115, 32, 109, 117, 115, 116, 32, 110, 111, 116, 32, 98, 101, 32, 110, 101, 103, 97, 116, 105, 118, 101]⟩ 1).run Tryf.prog w = .ok [(0, 115, false)] w := by kernel_rfl
theorem Tryf.fmt1 : FmtStop.printed? ⟨#[37, 115, 32, 109, 117, 115, 116, 32, 98, 101, 32, 97, 32, 118, 97, 108, 105, 100, 32, 105, 110, 116, 101, 103, 101, 114]⟩ 1 = some [(0, 115, false)] := by kernel_rfl
theorem Tryf.fmt1r (w : World) : (FmtDoors.printed ⟨#[37, 115, 32, 109, 117, 115, 116, 32, 98, 101, 32, 97, 32, 118, 97, 108, 105, 100, 32, 105, 110, 116, 101, 103, 101, 114]⟩ 1).run Tryf.prog w = .ok [(0, 115, false)] w := by kernel_rfl
theorem Tryf.fmt2 : FmtStop.printed? ⟨#[37, 115, 32, 109, 117, 115, 116, 32, 98, 101, 32, 103, 114, 101, 97, 116, 101, 114, 32, 116, 104, 97, 110, 32, 48]⟩ 1 = some [(0, 115, false)] := by kernel_rfl
theorem Tryf.fmt2r (w : World) : (FmtDoors.printed ⟨#[37, 115, 32, 109, 117, 115, 116, 32, 98, 101, 32, 103, 114, 101, 97, 116, 101, 114, 32, 116, 104, 97, 110, 32, 48]⟩ 1).run Tryf.prog w = .ok [(0, 115, false)] w := by kernel_rfl
theorem Tryf.fmt3 : FmtStop.printed? ⟨#[37, 115, 32, 101, 120, 99, 101, 101, 100, 115, 32, 109, 97, 120, 105, 109, 117, 109, 32, 97, 108, 108, 111, 119, 101, 100, 32, 118, 97, 108, 117, 101, 32, 111, 102, 32, 37, 100]⟩ 2 = some [(0, 115, false), (1, 100, false)] := by kernel_rfl
theorem Tryf.fmt3r (w : World) : (FmtDoors.printed ⟨#[37, 115, 32, 101, 120, 99, 101, 101, 100, 115, 32, 109, 97, 120, 105, 109, 117, 109, 32, 97, 108, 108, 111, 119, 101, 100, 32, 118, 97, 108, 117, 101, 32, 111, 102, 32, 37, 100]⟩ 2).run Tryf.prog w = .ok [(0, 115, false), (1, 100, false)] w := by kernel_rfl
def Tryf.shape9 : List UInt8 := [12, 6, 0, 0, 0, 0, 0, 0, 0, 115, 116, 114, 105, 110, 103]
theorem Tryf.op9_115 (name : String) (x : ByteArray) (w : World) : (FmtStop.operand name false 115 false (.iface 9 (.string x))).run Tryf.prog w = .ok (Tryf.shape9, FmtStop.pack x.data.toList) w := by kernel_rfl
theorem Tryf.op9_115w (name : String) (x : ByteArray) (w : World) : (FmtStop.operand name true 115 false (.iface 9 (.string x))).run Tryf.prog w = .ok (Tryf.shape9, FmtStop.pack x.data.toList) w := by kernel_rfl
theorem Tryf.strict9 (name : String) (x : ByteArray) (w : World) : (FmtStop.strict name (.iface 9 (.string x))).run Tryf.prog w = .ok (Tryf.shape9, FmtStop.pack x.data.toList) w := by kernel_rfl
def Tryf.shape3 : List UInt8 := [5, 3, 0, 0, 0, 0, 0, 0, 0, 105, 110, 116]
theorem Tryf.op3_100 (name : String) (x : Int) (w : World) : (FmtStop.operand name false 100 false (.iface 3 (.int .i64 x))).run Tryf.prog w = .ok (Tryf.shape3, Go.Extern.Stop.digits 8 (x % 2 ^ 64).toNat) w := by kernel_rfl
theorem Tryf.op3_100w (name : String) (x : Int) (w : World) : (FmtStop.operand name true 100 false (.iface 3 (.int .i64 x))).run Tryf.prog w = .ok (Tryf.shape3, Go.Extern.Stop.digits 8 (x % 2 ^ 64).toNat) w := by kernel_rfl
theorem Tryf.strict3 (name : String) (x : Int) (w : World) : (FmtStop.strict name (.iface 3 (.int .i64 x))).run Tryf.prog w = .ok (Tryf.shape3, Go.Extern.Stop.digits 8 (x % 2 ^ 64).toNat) w := by kernel_rfl
theorem Tryf.ptr63 (w : World) : (FmtStop.ptrTo "errors.errorString").run Tryf.prog w = .ok 63 w := by kernel_rfl
theorem Tryf.elem63 (w : World) : (elemOf 63).run Tryf.prog w = .ok 65 w := by kernel_rfl
theorem Tryf.isError63 (w : World) : (FmtDoors.textMethod 63 "Error").run Tryf.prog w = .ok true w := by kernel_rfl
attribute [local go_sem] Tryf.call23 Tryf.guard Tryf.fmt0 Tryf.fmt0r Tryf.fmt1 Tryf.fmt1r Tryf.fmt2 Tryf.fmt2r Tryf.fmt3 Tryf.fmt3r Tryf.op9_115 Tryf.op9_115w Tryf.strict9 Tryf.op3_100 Tryf.op3_100w Tryf.strict3 Tryf.ptr63 Tryf.elem63 Tryf.isError63

/-- AN ERROR THAT IS NOT nil. -/
def IsErr (v : Value) : Prop := ∃ t x, v = .iface t x

set_option maxHeartbeats 1000000 in
theorem notAnInteger_any (F : Interp) (nm : ByteArray) (w : World) (hF : F.answers w.tape) :
    Calls Tryf.prog 16 #[.string nm] w fun e w' => ∃ a, e = .returned (.iface 63 (.pointer (some a))) ∧ Below w.heap.size w w' := by
  have hF' := answers_open hF
  go_enter Tryf.func16, Tryf.ntmps16
  go_wp2
  go_ret
  exact ⟨_, rfl, (((Below.refl _ w).alloc (Nat.le_refl _) _).alloc (by simp) _).drew⟩

set_option maxHeartbeats 1000000 in
theorem range_zero (F : Interp) (nm : ByteArray) (m : Int) (w : World) (hF : F.answers w.tape) :
    Calls Tryf.prog 13 #[.string nm, .int .i64 0, .int .i64 m] w fun e w' => ∃ a, e = .returned (.iface 63 (.pointer (some a))) ∧ Below w.heap.size w w' := by
  have hF' := answers_open hF
  go_enter Tryf.func13, Tryf.ntmps13
  go_wp2
  go_ret
  exact ⟨_, rfl, (((Below.refl _ w).alloc (Nat.le_refl _) _).alloc (by simp) _).drew⟩

set_option maxHeartbeats 1000000 in
theorem range_big (F : Interp) (nm : ByteArray) (n m : Int) (w : World) (hF : F.answers w.tape) (h0 : (n == 0) = false) (h : m < n) :
    Calls Tryf.prog 13 #[.string nm, .int .i64 n, .int .i64 m] w fun e w' => ∃ a, e = .returned (.iface 63 (.pointer (some a))) ∧ Below w.heap.size w w' := by
  have hF' := answers_open hF
  go_enter Tryf.func13, Tryf.ntmps13
  go_wp2
  go_ret
  exact ⟨_, rfl, (((Below.refl _ w).alloc (Nat.le_refl _) _).alloc (by simp) _).drew⟩

set_option maxHeartbeats 1000000 in
theorem range_fits (nm : ByteArray) (n m : Int) (w : World) (h0 : (n == 0) = false) (h : ¬ m < n) :
    Calls Tryf.prog 13 #[.string nm, .int .i64 n, .int .i64 m] w fun e w' => e = .returned .nilIface ∧ w' = w := by
  go_enter Tryf.func13, Tryf.ntmps13
  go_wp2
  go_ret
  exact ⟨rfl, rfl⟩

set_option maxHeartbeats 1000000 in
theorem readCount_some (nm v : ByteArray) (n : Nat) (w : World) (hs : v.size ≤ 16777216) (h : Pl.count v.data.toList = some n) :
    Calls Tryf.prog 17 #[.string nm, .string v] w fun e w' => e = .returned (.tuple #[.int .i64 n, .nilIface]) ∧ w' = w := by
  have h1 : cntN v.data.toList = n := by unfold cntN; rw [h]; rfl
  have h2 : cntB v.data.toList = true := by unfold cntB; rw [h]; rfl
  have hp := fun w => parseCount_any v w hs
  rw [h1, h2] at hp
  have HP := hide hp
  clear hp h1 h2 h
  go_enter Tryf.func17, Tryf.ntmps17
  go_wp2_with (go_at_call 21; refine (unhide HP _).mono ?_; rintro e w' ⟨rfl, rfl⟩)
  go_ret2
  exact ⟨rfl, rfl⟩

theorem count_lt (l : List UInt8) (n : Nat) (h : Pl.count l = some n) : n ≤ 9223372036854775807 := by
  unfold Pl.count at h
  split at h
  · cases h
  · split at h
    · cases h; exact foldl_step_le l 0 (Nat.zero_le _)
    · cases h

set_option maxHeartbeats 1000000 in
theorem readCount_none (F : Interp) (nm v : ByteArray) (w : World) (hF : F.answers w.tape) (hs : v.size ≤ 16777216) (h : Pl.count v.data.toList = none) :
    Calls Tryf.prog 17 #[.string nm, .string v] w fun e w' => ∃ a, e = .returned (.tuple #[.int .i64 0, .iface 63 (.pointer (some a))]) ∧ Below w.heap.size w w' := by
  have hF' := answers_open hF
  have h1 : cntN v.data.toList = 0 := by unfold cntN; rw [h]; rfl
  have h2 : cntB v.data.toList = false := by unfold cntB; rw [h]; rfl
  have hp := fun w => parseCount_any v w hs
  rw [h1, h2] at hp
  have HP := hide hp
  clear hp h1 h2 h
  go_enter Tryf.func17, Tryf.ntmps17
  go_wp2_with fail
  refine (unhide HP _).mono ?_
  rintro e w' ⟨rfl, rfl⟩
  go_wp2_with (first | (go_at_call 22; go_in) | (go_at_call 30; go_in) | (go_at_call 35; go_in))
  · refine (notAnInteger_any F _ _ (by exact hF)).mono ?_
    rintro e w1 ⟨a, rfl, hb⟩
    go_wp2
    go_ret2
    exact ⟨a, rfl, hb⟩
  · refine (parseCount_any _ _ (by simp; omega)).mono ?_
    rintro e w1 ⟨rfl, rfl⟩
    generalize cntB _ = b
    cases b
    · go_wp2_with fail
      refine (notAnInteger_any F _ _ (by exact hF)).mono ?_
      rintro e w1 ⟨a, rfl, hb⟩
      go_wp2
      go_ret2
      exact ⟨a, rfl, hb⟩
    · go_wp2
      go_ret2
      exact ⟨_, rfl, (((Below.refl _ _).alloc (Nat.le_refl _) _).alloc (by simp) _).drew⟩
  · refine (notAnInteger_any F _ _ (by exact hF)).mono ?_
    rintro e w1 ⟨a, rfl, hb⟩
    go_wp2
    go_ret2
    exact ⟨a, rfl, hb⟩

end Go.Proofs.Qxb6614997aFmt
