import Derived.Test.Qxb6615497aGreatDoorW5
import Derived.Test.Qxb6615497aGreatDoorE5
import Derived.Lib.SpaceUEq
/- which values are numbers: allDigits' answer, in bytes. -/
namespace Go.Proofs.Qxb6615497aGreatDoor
open Go Go.RowKit

/-- no digit. -/
def offDigit (r : Nat) : Bool := decide ((r : Int) < 48) || decide (57 < (r : Int))

theorem get_bang (s : ByteArray) (i : Nat) (h : i < s.size) : s.get! i = s[i]'h := by
  show s.data[i]! = s.data[i]
  exact getElem!_pos s.data i h

theorem decode_digit (s : ByteArray) (pos : Nat) (h : pos < s.size) (hd : offDigit (Utf8.decode s pos).1 = false) : (Utf8.decode s pos).2 = 1 ∧ 48 ≤ (s[pos]'h).toNat ∧ (s[pos]'h).toNat ≤ 57 := by
  unfold offDigit at hd
  rw [Lib.decode_at] at hd ⊢
  rw [get_bang s pos h] at hd ⊢
  simp only [Bool.or_eq_false_iff, decide_eq_false_iff_not] at hd
  rcases Lib.decodeN_cases (s.size - pos) (s[pos]'h).toNat (s.get! (pos + 1)).toNat (s.get! (pos + 2)).toNat (s.get! (pos + 3)).toNat with ⟨h1, e⟩ | ⟨_, _, _, h1, e⟩ | ⟨_, _, _, _, h1, e⟩ | ⟨h1, _⟩ | e
  · rw [e] at hd ⊢
    exact ⟨rfl, by dsimp only at hd; omega, by dsimp only at hd; omega⟩
  · rw [e] at hd; exfalso; dsimp only at hd; omega
  · rw [e] at hd; exfalso; dsimp only at hd; omega
  · exfalso; omega
  · rw [e] at hd; exfalso; dsimp only at hd; omega

theorem digits_from (s : ByteArray) : ∀ (f pos : Nat), Lib.idxFuncFrom offDigit true s f pos < 0 → s.size ≤ pos + f → ∀ j (h : j < s.size), pos ≤ j → 48 ≤ (s[j]'h).toNat ∧ (s[j]'h).toNat ≤ 57
  | 0, pos, _, hf, j, h, hp => by omega
  | f + 1, pos, hx, hf, j, h, hp => by
    have hps : pos < s.size := by omega
    unfold Lib.idxFuncFrom at hx
    rw [if_pos hps] at hx
    by_cases hd : offDigit (Utf8.decode s pos).1 = true
    · rw [if_pos hd] at hx; omega
    · rw [if_neg hd] at hx
      have hd' : offDigit (Utf8.decode s pos).1 = false := by simpa using hd
      obtain ⟨hw, h1, h2⟩ := decode_digit s pos hps hd'
      rw [hw] at hx
      by_cases e : j = pos
      · subst e; exact ⟨h1, h2⟩
      · exact digits_from s f (pos + 1) hx (by omega) j h (by omega)

/-- allDigits' answer. -/
def digB (s : ByteArray) : Bool := decide (Lib.idxFunc offDigit true s < 0)
theorem digB_all {s : ByteArray} (h : digB s = true) (j : Nat) (hj : j < s.size) : 48 ≤ (s[j]'hj).toNat ∧ (s[j]'hj).toNat ≤ 57 :=
  digits_from s s.size 0 (by unfold digB Lib.idxFunc at h; simpa using h) (by omega) j hj (by omega)

set_option maxHeartbeats 2000000 in
theorem offDigit_calls (R : Nat) (w : World) : Calls Tryz.prog 68 #[.int .i32 R] w fun e w' => e = .returned (.bool (offDigit R)) ∧ w' = w := by
  unfold offDigit
  by_cases h : (R : Int) < 48
  · rw [decide_eq_true h]
    go_enter Tryz.func68, Tryz.ntmps68
    go_wp2
    go_ret
    exact ⟨rfl, rfl⟩
  · rw [decide_eq_false h]
    go_enter Tryz.func68, Tryz.ntmps68
    go_wp2
    go_ret
    exact ⟨rfl, rfl⟩

set_option maxHeartbeats 2000000 in
set_option maxRecDepth 1000000 in
theorem indexDigit_any (s : ByteArray) (w : World) :
    Calls Tryz.prog 88 #[.string s, .func (.func 68) #[] #[], .bool true] w fun e w' => e = .returned (.int .i64 (Lib.idxFunc offDigit true s)) ∧ Below w.heap.size w w' := by
  go_enter Tryz.func88, Tryz.ntmps88
  go_wp2
  go_loopg [] s.size (fun gf wx => ∃ pos : Nat, wx.heap[w.heap.size]? = some (.stringIter s pos) ∧ Below w.heap.size w wx ∧ Lib.idxFuncFrom offDigit true s gf pos = Lib.idxFunc offDigit true s ∧ s.size ≤ pos + gf)
  case atStart => exact ⟨0, World.iter_heap w s 0, (Below.refl _ w).alloc (Nat.le_refl _) _, rfl, by omega⟩
  case round =>
    obtain ⟨pos, hit, hbw, hleft, hfu⟩ := hrel
    by_cases hps : pos < s.size
    · obtain ⟨g', rfl⟩ : ∃ g', gk = g' + 1 := ⟨gk - 1, by omega⟩
      have hnx : ∀ ty, (Instr.next (.pointer (some ⟨w.heap.size, 0, none⟩)) true ty).run Tryz.prog wr = _ := fun ty => Lib.run_next_any_at wr w.heap.size s pos ty hit hps
      have hwd := Lib.width_pos s pos
      obtain ⟨R, hR⟩ : ∃ R, (Utf8.decode s pos).1 = R := ⟨_, rfl⟩
      obtain ⟨K, hK⟩ : ∃ K, (Utf8.decode s pos).2 = K := ⟨_, rfl⟩
      simp only [Lib.idxFuncFrom, hps, if_true, hR, hK] at hleft
      rw [hR, hK] at hnx
      rw [hK] at hwd
      have hit2 := Lib.iterAt_heap wr w.heap.size s pos (pos + K) hit
      have hbw2 := Lib.below_iterAt hbw (k := w.heap.size) (Nat.le_refl _) s (pos + K)
      obtain ⟨W, hWd⟩ : ∃ W, wr.iterAt w.heap.size s (pos + K) = W := ⟨_, rfl⟩
      rw [hWd] at hnx hit2 hbw2
      have HS := hide (offDigit_calls R W)
      cases hsp : offDigit R <;> rw [hsp] at HS <;> simp only [hsp, if_true, Bool.false_eq_true, if_false] at hleft
      · go_wp2_with (go_at_call 68; refine (unhide HS).mono ?_; rintro e W' ⟨rfl, hw⟩; obtain rfl := hw.symm)
        go_roundg g'
        case measure => omega
        case rel => exact ⟨pos + K, hit2, hbw2, hleft, by omega⟩
      · go_wp2_with (go_at_call 68; refine (unhide HS).mono ?_; rintro e W' ⟨rfl, hw⟩; obtain rfl := hw.symm)
        go_ret
        exact ⟨by rw [← hleft] <;> rfl, hbw2⟩
    · have hnx : ∀ ty, (Instr.next (.pointer (some ⟨w.heap.size, 0, none⟩)) true ty).run Tryz.prog wr = _ := fun ty => Lib.run_next_end_at wr w.heap.size s pos ty hit hps
      rw [Lib.idxFuncFrom_end offDigit true s gk pos hps] at hleft
      go_wp2
      go_ret
      exact ⟨by rw [← hleft] <;> rfl, hbw⟩

theorem IndexDigit_any (s : ByteArray) (w : World) :
    Calls Tryz.prog 50 #[.string s, .func (.func 68) #[] #[]] w fun e w' => e = .returned (.int .i64 (Lib.idxFunc offDigit true s)) ∧ Below w.heap.size w w' := by
  have H := hide (indexDigit_any s w)
  go_enter Tryz.func50, Tryz.ntmps50
  go_wp2_with (go_at_call 88; refine (unhide H).mono ?_; rintro e W' ⟨rfl, hb⟩)
  go_ret
  exact ⟨rfl, hb⟩

theorem allDigits_any (s : ByteArray) (w : World) :
    Calls Tryz.prog 40 #[.string s] w fun e w' => e = .returned (.bool (digB s)) ∧ Below w.heap.size w w' := by
  have H := hide (IndexDigit_any s w)
  go_enter Tryz.func40, Tryz.ntmps40
  go_wp2_with (go_at_call 50; refine (unhide H).mono ?_; rintro e W' ⟨rfl, hb⟩)
  go_ret
  exact ⟨rfl, hb⟩
end Go.Proofs.Qxb6615497aGreatDoor
