import Derived.Test.Qxb6606071aDoorPlain
import Derived.Test.Qxb6606071aDoorShelf
import Derived.Test.Qxb6606071aDoorRows
import Derived.WalkKit
import Derived.WalkSpells
import Derived.WalkLawsBesides
import Derived.BigQuiet
import Derived.Deep.QuietTactic
import Derived.Deep.RegionWith
namespace Go.Proofs.Qxb6606071aDoor
open Go.RowKit

theorem ba_ext {x y : ByteArray} (h : x.data.toList = y.data.toList) : x = y := by
  cases x; cases y; congr 1; exact Array.toList_inj.1 h

theorem Tryd.set72 : (Tryd.prog.info? (Tryd.lays161_ren.t 116)).map (fun i => (i.zero, i.size)) = some (some (.agg (Array.replicate 256 (.bool false))), 256) := by kernel_rfl

/-- the blanks. -/
def trim (l : List UInt8) : List UInt8 := l.dropWhile Pl.isBlank
theorem trim_eq (l : List UInt8) : Lib.trimLeftS l [32, 9, 10, 13] = trim l := by
  unfold Lib.trimLeftS trim
  congr 1
  funext c
  simp [Pl.isBlank, Bool.or_assoc]
  rfl

theorem trimLeft_any (s : ByteArray) (w : World) :
    Calls Tryd.prog 18 #[.string s, .string { data := #[32, 9, 10, 13] }] w fun e w' => e = .returned (.string ⟨(trim s.data.toList).toArray⟩) ∧ Below w.heap.size w w' := by
  have h := Any.strings_TrimLeft_laid Tryd.lays161 Tryd.set72 s { data := #[32, 9, 10, 13] } w (by decide) (by
    intro j b hb
    have : b ∈ ({ data := #[32, 9, 10, 13] } : ByteArray).data.toList := List.mem_of_getElem? hb
    simp at this
    rcases this with rfl | rfl | rfl | rfl <;> decide)
  rw [show Lib.trimLeftS s.data.toList ({ data := #[32, 9, 10, 13] } : ByteArray).data.toList = trim s.data.toList from trim_eq _] at h
  exact h

theorem zzBytes6_any (q : ByteArray) (w : World) (hq : q.size ≤ maxLen) :
    Calls Tryd.prog 6 #[.string q] w fun e w' => ∃ b, e = .returned (.bool b) ∧ w' = w := by
  unfold maxLen at hq
  go_enter Tryd.func6, Tryd.ntmps6
  go_wp2
  all_goals (go_ret; exact ⟨_, rfl, rfl⟩)

theorem isDig_int (c : UInt8) : Pl.isDig c = decide (48 ≤ (c.toNat : Int) ∧ (c.toNat : Int) ≤ 57) := by
  unfold Pl.isDig
  rw [Bool.eq_iff_iff]; simp; omega
theorem u8_beq (c : UInt8) (n : Nat) (h : n < 256) : ((c.toNat : Int) == (n : Int)) = (c == UInt8.ofNat n) := by
  rw [Bool.eq_iff_iff]
  simp only [beq_iff_eq]
  constructor
  · intro e
    exact UInt8.toNat_inj.1 (by rw [UInt8.toNat_ofNat_of_lt' (by simpa using h)]; omega)
  · intro e
    rw [e, UInt8.toNat_ofNat_of_lt' (by simpa using h)]

theorem isDigit_any (c : UInt8) (w : World) : Calls Tryd.prog 14 #[.int .u8 (c.toNat : Int)] w fun e w' => e = .returned (.bool (Pl.isDig c)) ∧ w' = w := by
  have HD := hide (isDig_int c)
  go_enter Tryd.func14, Tryd.ntmps14
  go_wp2
  all_goals
    go_ret
    rw [unhide HD]
    exact ⟨by first | rfl | (congr 2; simp; omega) | (congr 2; rw [Bool.eq_iff_iff]; simp; omega), rfl⟩

theorem isBlank_any (c : UInt8) (w : World) : Calls Tryd.prog 13 #[.int .u8 (c.toNat : Int)] w fun e w' => e = .returned (.bool (Pl.isBlank c)) ∧ w' = w := by
  have HD : Hid (Pl.isBlank c = (((c.toNat : Int) == 32) || ((c.toNat : Int) == 9) || ((c.toNat : Int) == 10) || ((c.toNat : Int) == 13))) := by
    have h1 := u8_beq c 32 (by omega)
    have h2 := u8_beq c 9 (by omega)
    have h3 := u8_beq c 10 (by omega)
    have h4 := u8_beq c 13 (by omega)
    exact hide (by unfold Pl.isBlank; exact (congr (congrArg or (congr (congrArg or (congr (congrArg or h1) h2)) h3)) h4).symm)
  go_enter Tryd.func13, Tryd.ntmps13
  go_wp2
  all_goals
    go_ret
    rw [unhide HD]
    exact ⟨by first | rfl | (congr 2; simp_all), rfl⟩

theorem nd_le : ∀ l : List UInt8, Pl.nd l ≤ l.length
  | [] => Nat.le_refl _
  | c :: l => by
    unfold Pl.nd
    split
    · have := nd_le l; simp; omega
    · simp

theorem nd_at : ∀ (l : List UInt8) (k : Nat), (∀ j, j < k → ∃ c, l[j]? = some c ∧ Pl.isDig c = true) → (∀ c, l[k]? = some c → Pl.isDig c = false) → Pl.nd l = k
  | [], 0, _, _ => rfl
  | [], k + 1, h, _ => by obtain ⟨c, hc, _⟩ := h 0 (by omega); simp at hc
  | c :: l, 0, _, h => by
    unfold Pl.nd
    rw [h c rfl]; rfl
  | c :: l, k + 1, h, h2 => by
    obtain ⟨d, hd, hdig⟩ := h 0 (by omega)
    simp at hd
    subst hd
    unfold Pl.nd
    rw [hdig, nd_at l k (fun j hj => by simpa using h (j + 1) (by omega)) (fun d hd => h2 d (by simpa using hd))]
    rfl

set_option maxHeartbeats 1000000 in
theorem count_any (s : ByteArray) (w : World) (hs : s.size ≤ 1048576) : Calls Tryd.prog 19 #[.string s] w fun e w' => e = .returned (.int .i64 (Pl.nd s.data.toList : Nat)) ∧ w' = w := by
  go_enter Tryd.func19, Tryd.ntmps19
  go_wp2
  go_loop [3] (fun i => ∃ k : Nat, k ≤ s.size ∧ i = .int .i64 k ∧ Hid (∀ j, j < k → ∃ c, s.data.toList[j]? = some c ∧ Pl.isDig c = true)) (fun i => s.size - (intOf i).toNat)
  case atStart => exact ⟨0, Nat.zero_le _, rfl, hide (fun j hj => absurd hj (Nat.not_lt_zero j))⟩
  case round =>
    obtain ⟨k, hk, rfl, HA⟩ := hrel
    by_cases hgo : ∃ h : k < s.size, Pl.isDig s[k] = true
    · obtain ⟨hlt, hd⟩ := hgo
      have HA2 : Hid (∀ j, j < k + 1 → ∃ c, s.data.toList[j]? = some c ∧ Pl.isDig c = true) := by
        refine hide (fun j hj => ?_)
        by_cases e : j = k
        · subst e
          exact ⟨s[j], by rw [List.getElem?_eq_getElem (by simpa using hlt)]; rfl, hd⟩
        · exact unhide HA j (by omega)
      rw [isDig_int] at hd
      obtain ⟨hd1, hd2⟩ := of_decide_eq_true hd
      clear HA hd
      go_wp2
      go_round
      case rel => exact ⟨k + 1, by omega, by go_num, HA2⟩
      case measure => simp [intOf]; omega
    · have HN : Hid (Pl.nd s.data.toList = k) := by
        refine hide (nd_at _ _ (unhide HA) (fun c hc => ?_))
        cases hd : Pl.isDig c with
        | false => rfl
        | true =>
          exfalso
          obtain ⟨hlt, e⟩ := List.getElem?_eq_some_iff.1 hc
          exact hgo ⟨by simpa using hlt, by rw [← hd, ← e]; rfl⟩
      have hor : k = s.size ∨ (∃ h : k < s.size, (s[k].toNat : Int) < 48) ∨ (∃ h : k < s.size, 57 < (s[k].toNat : Int)) := by
        by_cases h : k < s.size
        · right
          have hd : Pl.isDig s[k] = false := by
            cases hd : Pl.isDig s[k] with
            | false => rfl
            | true => exact absurd ⟨h, hd⟩ hgo
          rw [isDig_int] at hd
          have := of_decide_eq_false hd
          by_cases h1 : (s[k].toNat : Int) < 48
          · exact .inl ⟨h, h1⟩
          · exact .inr ⟨h, by omega⟩
        · left; omega
      clear hgo HA
      rcases hor with rfl | ⟨h, h1⟩ | ⟨h, h1⟩
      all_goals
        go_wp2
        go_ret
        exact ⟨by rw [unhide HN]; rfl, rfl⟩
end Go.Proofs.Qxb6606071aDoor
