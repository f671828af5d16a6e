import Derived.Test.Qxb6615497aGreatDoorW1
import Derived.Shelf.Strings.FuncGrows
import Derived.Deep.LoopGhost
/- strings.IndexFunc at productToken's closure; productToken. -/
namespace Go.Proofs.Qxb6615497aGreatDoor
open Go.RowKit Go.Lib

/-- no token rune. -/
def offToken (r : Nat) : Bool := !tokenRune (r : Int)

set_option maxHeartbeats 2000000 in
set_option maxRecDepth 1000000 in
theorem indexFunc_any (s : ByteArray) (w : World) :
    Calls Tryz.prog 88 #[.string s, .func (.func 51) #[] #[], .bool true] w fun e w' => e = .returned (.int .i64 (Lib.idxFunc offToken true s)) ∧ Below w.heap.size w w' := by
  go_enter Tryz.func88, Tryz.ntmps88
  go_wp2
  go_loopg [] s.size (fun gf wx => ∃ pos : Nat, wx.heap[w.heap.size]? = some (.stringIter s pos) ∧ Below w.heap.size w wx ∧ Lib.idxFuncFrom offToken true s gf pos = Lib.idxFunc offToken true s ∧ s.size ≤ pos + gf)
  case atStart => exact ⟨0, World.iter_heap w s 0, (Below.refl _ w).alloc (Nat.le_refl _) _, rfl, by omega⟩
  case round =>
    obtain ⟨pos, hit, hbw, hleft, hfu⟩ := hrel
    by_cases hps : pos < s.size
    · obtain ⟨g', rfl⟩ : ∃ g', gk = g' + 1 := ⟨gk - 1, by omega⟩
      have hnx : ∀ ty, (Instr.next (.pointer (some ⟨w.heap.size, 0, none⟩)) true ty).run Tryz.prog wr = _ := fun ty => Lib.run_next_any_at wr w.heap.size s pos ty hit hps
      have hwd := Lib.width_pos s pos
      obtain ⟨R, hR⟩ : ∃ R, (Utf8.decode s pos).1 = R := ⟨_, rfl⟩
      obtain ⟨K, hK⟩ : ∃ K, (Utf8.decode s pos).2 = K := ⟨_, rfl⟩
      simp only [Lib.idxFuncFrom, hps, if_true, hR, hK] at hleft
      rw [hR, hK] at hnx
      rw [hK] at hwd
      have hit2 := Lib.iterAt_heap wr w.heap.size s pos (pos + K) hit
      have hbw2 := Lib.below_iterAt hbw (k := w.heap.size) (Nat.le_refl _) s (pos + K)
      obtain ⟨W, hWd⟩ : ∃ W, wr.iterAt w.heap.size s (pos + K) = W := ⟨_, rfl⟩
      rw [hWd] at hnx hit2 hbw2
      have cS := notToken_any (R : Int) W
      have hpe : (!tokenRune (R : Int)) = offToken R := rfl
      rw [hpe] at cS
      have HS := hide cS
      clear cS hpe
      cases hsp : offToken R <;> rw [hsp] at HS <;> simp only [hsp, if_true, Bool.false_eq_true, if_false] at hleft
      · go_wp2_with (go_at_call 51; refine (unhide HS).mono ?_; rintro e W' ⟨rfl, hw⟩; obtain rfl := hw.symm)
        go_roundg g'
        case measure => omega
        case rel => exact ⟨pos + K, hit2, hbw2, hleft, by omega⟩
      · go_wp2_with (go_at_call 51; refine (unhide HS).mono ?_; rintro e W' ⟨rfl, hw⟩; obtain rfl := hw.symm)
        go_ret
        exact ⟨by rw [← hleft] <;> rfl, hbw2⟩
    · have hnx : ∀ ty, (Instr.next (.pointer (some ⟨w.heap.size, 0, none⟩)) true ty).run Tryz.prog wr = _ := fun ty => Lib.run_next_end_at wr w.heap.size s pos ty hit hps
      rw [Lib.idxFuncFrom_end offToken true s gk pos hps] at hleft
      go_wp2
      go_ret
      exact ⟨by rw [← hleft] <;> rfl, hbw⟩

theorem IndexFunc_any (s : ByteArray) (w : World) :
    Calls Tryz.prog 50 #[.string s, .func (.func 51) #[] #[]] w fun e w' => e = .returned (.int .i64 (Lib.idxFunc offToken true s)) ∧ Below w.heap.size w w' := by
  have H := hide (indexFunc_any s w)
  go_enter Tryz.func50, Tryz.ntmps50
  go_wp2_with (go_at_call 88; refine (unhide H).mono ?_; rintro e W' ⟨rfl, hb⟩)
  go_ret
  exact ⟨rfl, hb⟩

/-- the product token that a value names. -/
def tokenOf (s : ByteArray) : ByteArray := if s = ⟨#[42]⟩ then s else if Lib.idxFunc offToken true s < 0 then s else s.extract 0 (Lib.idxFunc offToken true s).toNat

set_option maxHeartbeats 1000000 in
theorem productToken_any (s : ByteArray) (w : World) :
    Calls Tryz.prog 29 #[.string s] w fun e w' => e = .returned (.string (tokenOf s)) ∧ Below w.heap.size w w' := by
  have hrg := Lib.idxFuncFrom_range offToken true s s.size 0
  have H := hide (IndexFunc_any s w)
  have hrg' : -1 ≤ Lib.idxFunc offToken true s ∧ Lib.idxFunc offToken true s ≤ s.size := by
    have e : Lib.idxFuncFrom offToken true s s.size 0 = Lib.idxFunc offToken true s := rfl
    rw [e] at hrg
    omega
  clear hrg
  by_cases he : s = ⟨#[42]⟩
  · subst he
    go_enter Tryz.func29, Tryz.ntmps29
    go_wp2_with fail
    go_ret
    exact ⟨rfl, Below.refl _ _⟩
  · have hne : (s.toList == [42]) = false := by
      rw [Lib.toList_data, beq_eq_false_iff_ne]
      intro e
      apply he
      cases s with
      | mk d => cases d; simp at e; rw [e]
    unfold tokenOf
    rw [if_neg he]
    clear he
    generalize Lib.idxFunc offToken true s = z at H hrg' ⊢
    by_cases hz : z < 0
    · rw [if_pos hz]
      go_enter Tryz.func29, Tryz.ntmps29
      go_wp2_with (go_at_call 50; refine (unhide H).mono ?_; rintro e W' ⟨rfl, hb⟩)
      go_ret
      exact ⟨rfl, hb⟩
    · rw [if_neg hz]
      obtain ⟨k, rfl⟩ : ∃ k : Nat, z = (k : Int) := ⟨z.toNat, by omega⟩
      have hk : k ≤ s.size := by omega
      go_enter Tryz.func29, Tryz.ntmps29
      go_wp2_with (go_at_call 50; refine (unhide H).mono ?_; rintro e W' ⟨rfl, hb⟩)
      go_ret
      exact ⟨rfl, hb⟩

/-- a value that begins with the star and goes on names nobody. -/
theorem token_none (s : ByteArray) (h1 : 1 < s.size) (h0 : s[0]'(by omega) = 42) : tokenOf s = ⟨#[]⟩ := by
  have hne : s ≠ ⟨#[42]⟩ := by rintro rfl; exact absurd h1 (by decide)
  have e : Lib.idxFunc offToken true s = 0 := by
    show Lib.idxFuncFrom offToken true s s.size 0 = 0
    obtain ⟨f, hf⟩ : ∃ f, s.size = f + 1 := ⟨s.size - 1, by omega⟩
    rw [hf]
    have hd : Utf8.decode s 0 = (42, 1) := by
      rw [decode_ascii s 0 (by omega) (by rw [h0]; decide), h0]
      rfl
    unfold Lib.idxFuncFrom
    rw [if_pos (by omega), hd]
    rfl
  unfold tokenOf
  rw [if_neg hne, e]
  simp only [Int.lt_irrefl, if_false]
  show s.extract 0 0 = _
  have e2 : (s.extract 0 0).data.toList = [] := by rw [Lib.extract_data]; simp
  cases hx : s.extract 0 0 with
  | mk d =>
    rw [hx] at e2
    cases d
    simp at e2
    rw [e2]
theorem token_star : tokenOf ⟨#[42]⟩ = ⟨#[42]⟩ := if_pos rfl

end Go.Proofs.Qxb6615497aGreatDoor
