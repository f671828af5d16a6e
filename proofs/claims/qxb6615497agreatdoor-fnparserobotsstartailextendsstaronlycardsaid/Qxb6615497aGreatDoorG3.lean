import Derived.Test.Qxb6615497aGreatDoorE1
import Derived.Lib.Bytealg
/- canonicalPath's small functions. -/
namespace Go.Proofs.Qxb6615497aGreatDoor
open Go Go.RowKit

def hexB (c : Int) : Bool := decide ((48 ≤ c ∧ c ≤ 57) ∨ (97 ≤ c ∧ c ≤ 102) ∨ (65 ≤ c ∧ c ≤ 70))
theorem hexB_small {c : Int} (h : hexB c = true) : 48 ≤ c ∧ c ≤ 102 := by
  unfold hexB at h
  simp only [decide_eq_true_eq] at h
  omega

set_option maxHeartbeats 1000000 in
theorem isHex_any (c : Int) (w : World) : Calls Tryz.prog 60 #[.int .u8 c] w fun e w' => e = .returned (.bool (hexB c)) ∧ w' = w := by
  unfold hexB
  by_cases h1 : (48 ≤ c ∧ c ≤ 57)
  · obtain ⟨a1, a2⟩ := h1
    rw [decide_eq_true (by omega)]
    go_enter Tryz.func60, Tryz.ntmps60
    go_wp2
    go_ret
    exact ⟨rfl, rfl⟩
  · by_cases h2 : (97 ≤ c ∧ c ≤ 102)
    · obtain ⟨a1, a2⟩ := h2
      have b1 : ¬ (c ≤ 57) := by omega
      have b2 : 48 ≤ c := by omega
      rw [decide_eq_true (by omega)]
      clear h1
      go_enter Tryz.func60, Tryz.ntmps60
      go_wp2
      go_ret
      exact ⟨rfl, rfl⟩
    · by_cases h3 : (65 ≤ c ∧ c ≤ 70)
      · obtain ⟨a1, a2⟩ := h3
        have b1 : ¬ (c ≤ 57) := by omega
        have b2 : 48 ≤ c := by omega
        have b3 : ¬ (97 ≤ c) := by omega
        rw [decide_eq_true (by omega)]
        clear h1 h2
        go_enter Tryz.func60, Tryz.ntmps60
        go_wp2
        go_ret
        exact ⟨rfl, rfl⟩
      · rw [decide_eq_false (by omega)]
        by_cases c1 : 48 ≤ c
        · have b1 : ¬ (c ≤ 57) := by omega
          by_cases c2 : 97 ≤ c
          · have b2 : ¬ (c ≤ 102) := by omega
            have b3 : ¬ (c ≤ 70) := by omega
            have b4 : 65 ≤ c := by omega
            clear h1 h2 h3
            go_enter Tryz.func60, Tryz.ntmps60
            go_wp2
            go_ret
            exact ⟨rfl, rfl⟩
          · by_cases c3 : 65 ≤ c
            · have b3 : ¬ (c ≤ 70) := by omega
              clear h1 h2 h3
              go_enter Tryz.func60, Tryz.ntmps60
              go_wp2
              go_ret
              exact ⟨rfl, rfl⟩
            · clear h1 h2 h3
              go_enter Tryz.func60, Tryz.ntmps60
              go_wp2
              go_ret
              exact ⟨rfl, rfl⟩
        · have b2 : ¬ (97 ≤ c) := by omega
          have b4 : ¬ (65 ≤ c) := by omega
          clear h1 h2 h3
          go_enter Tryz.func60, Tryz.ntmps60
          go_wp2
          go_ret
          exact ⟨rfl, rfl⟩

def uhx (c : Int) : Int := if c ≤ 57 then IntKind.u8.wrap (c - 48) else if c ≤ 70 then (c - 65 + 10) % 256 else (c - 97 + 10) % 256
set_option maxHeartbeats 1000000 in
theorem uhx_calls (c : Int) (w : World) : Calls Tryz.prog 61 #[.int .u8 c] w fun e w' => e = .returned (.int .u8 (uhx c)) ∧ w' = w := by
  unfold uhx
  by_cases h1 : c ≤ 57
  · rw [if_pos h1]
    go_enter Tryz.func61, Tryz.ntmps61
    go_wp2
    go_ret
    exact ⟨rfl, rfl⟩
  · rw [if_neg h1]
    by_cases h2 : c ≤ 70
    · rw [if_pos h2]
      go_enter Tryz.func61, Tryz.ntmps61
      go_wp2
      go_ret
      exact ⟨rfl, rfl⟩
    · rw [if_neg h2]
      go_enter Tryz.func61, Tryz.ntmps61
      go_wp2
      go_ret
      exact ⟨rfl, rfl⟩

theorem ixByte_run (s : ByteArray) (c : Int) (w : World) : (callFunc 130 #[.string s, .int .u8 c]).run Tryz.prog w = .ok (.value (.int .i64 (Lib.indexByte s.data.toList c.toNat.toUInt8))) w := by
  rw [run_callFunc_extern Tryz.func130 (by kernel_rfl) (by kernel_rfl) (by kernel_rfl) (e := Extern.BytealgIndexByte.indexByte) (by kernel_rfl), Lib.run_indexByteString]
  rfl

def unresB (c : Int) : Bool := decide ((97 ≤ c ∧ c ≤ 122) ∨ (65 ≤ c ∧ c ≤ 90) ∨ (48 ≤ c ∧ c ≤ 57) ∨ 0 ≤ Lib.indexByte (⟨#[45, 46, 95, 126]⟩ : ByteArray).data.toList c.toNat.toUInt8)
set_option maxHeartbeats 1000000 in
theorem unres_calls (c : Int) (w : World) : Calls Tryz.prog 62 #[.int .u8 c] w fun e w' => e = .returned (.bool (unresB c)) ∧ w' = w := by
  have hd := ixByte_run
  unfold unresB
  obtain ⟨ix, hix⟩ : ∃ ix, Lib.indexByte (⟨#[45, 46, 95, 126]⟩ : ByteArray).data.toList c.toNat.toUInt8 = ix := ⟨_, rfl⟩
  have hd' : ∀ w : World, (callFunc 130 #[.string ⟨#[45, 46, 95, 126]⟩, .int .u8 c]).run Tryz.prog w = .ok (.value (.int .i64 ix)) w := fun w => by rw [hd, hix]
  rw [hix]
  clear hd hix
  have fin : ∀ (a1 : (97 ≤ c) ∨ ¬ (97 ≤ c)) (a2 : (c ≤ 122) ∨ ¬ (c ≤ 122)) (a3 : (65 ≤ c) ∨ ¬ (65 ≤ c)) (a4 : (c ≤ 90) ∨ ¬ (c ≤ 90)) (a5 : (48 ≤ c) ∨ ¬ (48 ≤ c)) (a6 : (c ≤ 57) ∨ ¬ (c ≤ 57)) (a7 : (0 ≤ ix) ∨ ¬ (0 ≤ ix)),
      Calls Tryz.prog 62 #[.int .u8 c] w fun e w' => e = .returned (.bool (decide ((97 ≤ c ∧ c ≤ 122) ∨ (65 ≤ c ∧ c ≤ 90) ∨ (48 ≤ c ∧ c ≤ 57) ∨ 0 ≤ ix))) ∧ w' = w := by
    intro a1 a2 a3 a4 a5 a6 a7
    rcases a1 with a1 | a1 <;> rcases a2 with a2 | a2 <;> rcases a3 with a3 | a3 <;> rcases a4 with a4 | a4 <;> rcases a5 with a5 | a5 <;> rcases a6 with a6 | a6 <;> rcases a7 with a7 | a7 <;>
    first
      | (exfalso; omega)
      | (rw [decide_eq_true (by omega)]
         go_enter Tryz.func62, Tryz.ntmps62
         go_wp2
         go_ret
         exact ⟨rfl, rfl⟩)
      | (rw [decide_eq_false (by omega)]
         go_enter Tryz.func62, Tryz.ntmps62
         go_wp2
         go_ret
         exact ⟨rfl, rfl⟩)
  exact fin (by omega) (by omega) (by omega) (by omega) (by omega) (by omega) (by omega)
end Go.Proofs.Qxb6615497aGreatDoor
