import Derived.Test.Qxb6606071aDoorD5
import GoSem.PinnedTables
/- the leftcheats table; Shift. -/
namespace Go.Proofs.Qxb6606071aDoor.Fl
open Go.RowKit

def chD (k : Nat) : Nat := (Go.Pinned.cheatRows.getD k (0, [])).1
def chC (k : Nat) : ByteArray := ⟨(Go.Pinned.cheatRows.getD k (0, [])).2.toArray⟩

def cheatB (k : Nat) : Bool :=
  decide (V (rowOf (chC k)) (chC k).size = 5 ^ k) && (List.range (chC k).size).all (fun i => decide (48 ≤ rowOf (chC k) i) && decide (rowOf (chC k) i ≤ 57)) && decide (49 ≤ rowOf (chC k) ((chC k).size - 1)) &&
  decide ((10 : Int) ^ ((chC k).size - 1) ≤ 5 ^ k) && decide ((5 : Int) ^ k < 10 ^ (chC k).size) && decide (chD k + (chC k).size = k + 1) && decide (1 ≤ (chC k).size) && decide (1 ≤ chD k) && decide (chD k ≤ 20)

theorem cheat_all : ((List.range 60).all fun i => cheatB (i + 1)) = true := by decide +kernel

theorem cheat_ok (k : Nat) (h1 : 1 ≤ k) (h2 : k ≤ 60) : CheatOk k (chD k) (chC k) := by
  have hb : cheatB k = true := by
    have := List.all_eq_true.1 cheat_all (k - 1) (List.mem_range.2 (by omega))
    rw [show k - 1 + 1 = k by omega] at this
    exact this
  unfold cheatB at hb
  simp only [Bool.and_eq_true, decide_eq_true_eq, List.all_eq_true, List.mem_range] at hb
  obtain ⟨⟨⟨⟨⟨⟨⟨⟨b1, b2⟩, b3⟩, b4⟩, b5⟩, b6⟩, b7⟩, b8⟩, b9⟩ := hb
  exact ⟨b1, b2, b3, b4, b5, b6, b7, b8, b9⟩

/-- a decimal's state, its sign apart. -/
structure Dst where
  D : Nat → Int
  nd : Nat
  dp : Int
  tr : Bool

/-- it holds a number other than zero, in order. -/
structure Good (S : Dst) : Prop where
  n1 : 1 ≤ S.nd
  n8 : S.nd ≤ 800
  dig : ∀ i, i < S.nd → 48 ≤ S.D i ∧ S.D i ≤ 57
  lead : 49 ≤ S.D 0

def In (a : Nat) (neg : Bool) (S : Dst) (w : World) : Prop := DecAt a S.D S.nd S.dp neg S.tr w

def dOf (k : Nat) (S : Dst) : Nat := if prefLess S.D S.nd (chC k) (chC k).size 0 = true then chD k - 1 else chD k
def lsS (k : Nat) (S : Dst) : Dst := ⟨(lsRes k (dOf k S) S.D S.nd S.dp S.tr).1, (lsRes k (dOf k S) S.D S.nd S.dp S.tr).2.1, (lsRes k (dOf k S) S.D S.nd S.dp S.tr).2.2.1, (lsRes k (dOf k S) S.D S.nd S.dp S.tr).2.2.2⟩
def rsS (k : Nat) (S : Dst) : Dst := ⟨(rsRes k S.D S.nd S.dp S.tr).1, (rsRes k S.D S.nd S.dp S.tr).2.1, (rsRes k S.D S.nd S.dp S.tr).2.2.1, (rsRes k S.D S.nd S.dp S.tr).2.2.2⟩

theorem left_good {k : Nat} (h1 : 1 ≤ k) (h2 : k ≤ 60) {S : Dst} (hS : Good S) : Good (lsS k S) ∧ S.dp ≤ (lsS k S).dp ∧ (lsS k S).dp ≤ S.dp + 20 ∧ ((lsS k S).dp = S.dp → S.D 0 < (lsS k S).D 0) := by
  obtain ⟨_, a2, a3, a4, a5, a6, a7, a8⟩ := left_ok (cheat_ok k h1 h2) h1 hS.n1 hS.n8 hS.dig hS.lead S.dp S.tr (dOf k S) rfl
  have e : (lsS k S).dp = S.dp + dOf k S := a7
  refine ⟨⟨a3, a4, a5, a6⟩, by omega, by omega, fun h => ?_⟩
  have := a8 (by omega)
  have hl := hS.lead
  show S.D 0 < (lsRes k (dOf k S) S.D S.nd S.dp S.tr).1 0
  omega

theorem right_good {k : Nat} (h1 : 1 ≤ k) (h2 : k ≤ 60) {S : Dst} (hS : Good S) : Good (rsS k S) ∧ (rsS k S).dp ≤ S.dp ∧ S.dp - 24 ≤ (rsS k S).dp ∧ ((rsS k S).dp = S.dp → (rsS k S).D 0 < S.D 0) := by
  obtain ⟨a1, a2, a3, a4, a5, a6, a7⟩ := right_ok k h1 h2 S.D S.nd hS.n1 hS.n8 hS.dig hS.lead S.dp S.tr
  exact ⟨⟨a1, a2, a3, a4⟩, a5, a6, a7⟩

/-- the table in memory, below block a. -/
structure Cheats (a : Nat) (w : World) : Prop where
  tab : ∃ T oT cap, T < a ∧ 13 < a ∧ w.cell? ⟨13, 0, none⟩ = some (.slice (some ⟨T, oT, none⟩) 61 cap) ∧ ∀ k, k ≤ 60 → w.cell? ⟨T, oT + k * 2, none⟩ = some (.int .i64 (chD k)) ∧ w.cell? ⟨T, oT + k * 2 + 1, none⟩ = some (.string (chC k))

theorem Cheats.below {a : Nat} {w w' : World} (h : Cheats a w) (hb : Below a w w') : Cheats a w' := by
  obtain ⟨T, oT, cap, h1, h2, h3, h4⟩ := h.tab
  exact ⟨T, oT, cap, h1, h2, (hb.cell (p := ⟨13, 0, none⟩) h2).trans h3, fun k hk => ⟨(hb.cell (p := ⟨T, oT + k * 2, none⟩) h1).trans (h4 k hk).1, (hb.cell (p := ⟨T, oT + k * 2 + 1, none⟩) h1).trans (h4 k hk).2⟩⟩
theorem Cheats.at' {a : Nat} {w : World} (h : Cheats a w) (k : Nat) (hk : k ≤ 60) : CheatAt k (chD k) (chC k) w := by
  obtain ⟨T, oT, cap, _, _, h3, h4⟩ := h.tab
  exact ⟨T, oT, cap, h3, (h4 k hk).1, (h4 k hk).2⟩

theorem leftS_any {k : Nat} (h1 : 1 ≤ k) (h2 : k ≤ 60) (a : Nat) (neg : Bool) {S : Dst} (hS : Good S) (hdp : -100000 ≤ S.dp ∧ S.dp ≤ 100000) (w : World) (h : In a neg S w) (hC : Cheats a w) :
    Calls Tryd.prog 84 #[.pointer (some ⟨a, 0, none⟩), .int .u64 k] w fun e w' => e = .returned (.tuple #[]) ∧ In a neg (lsS k S) w' ∧ Below a w w' := by
  have hok := cheat_ok k h1 h2
  obtain ⟨a1, a2, _⟩ := left_ok hok h1 hS.n1 hS.n8 hS.dig hS.lead S.dp S.tr (dOf k S) rfl
  exact leftShift_walk a S.D S.nd S.dp neg S.tr k (chD k) (chC k) w h (hC.at' k h2) hS.n8 h2 hS.dig hok.dl20 hdp (fun _ => hok.dl1) (dOf k S) rfl a1

theorem rightS_any {k : Nat} (h1 : 1 ≤ k) (h2 : k ≤ 60) (a : Nat) (neg : Bool) {S : Dst} (hS : Good S) (hdp : -100000 ≤ S.dp ∧ S.dp ≤ 100000) (w : World) (h : In a neg S w) :
    Calls Tryd.prog 85 #[.pointer (some ⟨a, 0, none⟩), .int .u64 k] w fun e w' => e = .returned (.tuple #[]) ∧ In a neg (rsS k S) w' ∧ Below a w w' :=
  rightShift_walk a S.D S.nd S.dp neg S.tr k w h hS.n8 hS.n1 h2 h1 hS.dig hS.lead hdp

set_option maxHeartbeats 1000000 in
/-- Shift to the left by at most sixty. -/
theorem shiftL_any {k : Nat} (h1 : 1 ≤ k) (h2 : k ≤ 60) (a : Nat) (neg : Bool) {S : Dst} (hS : Good S) (hdp : -100000 ≤ S.dp ∧ S.dp ≤ 100000) (w : World) (h : In a neg S w) (hC : Cheats a w) :
    Calls Tryd.prog 75 #[.pointer (some ⟨a, 0, none⟩), .int .i64 k] w fun e w' => e = .returned (.tuple #[]) ∧ In a neg (lsS k S) w' ∧ Below a w w' := by
  have H := hide (leftS_any h1 h2 a neg hS hdp w h hC)
  have cn := h.nd
  have hn := hS.n1
  have hnz : ¬ ((S.nd : Int) = 0) := by omega
  have hkz : (0 : Int) < (k : Int) := by omega
  have hk60 : ¬ ((60 : Int) < (k : Int)) := by omega
  clear h hC
  go_enter Tryd.func75, Tryd.ntmps75
  go_wp2
  go_loopg [1] 0 (fun gf s1 wx => s1 = .int .i64 k ∧ wx = w)
  case atStart => exact ⟨rfl, rfl⟩
  case round =>
    obtain ⟨rfl, rfl⟩ := hrel
    go_wp2_with (go_at_call 84; refine (unhide H).mono ?_; rintro e w' ⟨rfl, h6, hb6⟩)
    go_end0
    exact ⟨rfl, h6, hb6⟩

/-- to the right by more than sixty: by sixties first (fuel first). -/
def rsMany : Nat → Nat → Dst → Dst
  | 0, n, S => rsS n S
  | f + 1, n, S => if n ≤ 60 then rsS n S else rsMany f (n - 60) (rsS 60 S)

theorem rsMany_good : ∀ (f n : Nat) (S : Dst), 1 ≤ n → n ≤ 60 * f + 60 → Good S → Good (rsMany f n S) ∧ (rsMany f n S).dp ≤ S.dp ∧ S.dp - 24 * (f + 1) ≤ (rsMany f n S).dp
  | 0, n, S, h1, h2, hS => by
    have := right_good h1 (by omega) hS
    exact ⟨this.1, this.2.1, by have := this.2.2.1; show S.dp - 24 * ((0 : Nat) + 1) ≤ (rsS n S).dp; omega⟩
  | f + 1, n, S, h1, h2, hS => by
    unfold rsMany
    by_cases hn : n ≤ 60
    · rw [if_pos hn]
      have := right_good h1 hn hS
      exact ⟨this.1, this.2.1, by have := this.2.2.1; omega⟩
    · rw [if_neg hn]
      have h60 := right_good (k := 60) (by decide) (by decide) hS
      have ih := rsMany_good f (n - 60) (rsS 60 S) (by omega) (by omega) h60.1
      exact ⟨ih.1, by have := ih.2.1; have := h60.2.1; omega, by have := ih.2.2; have := h60.2.2.1; omega⟩

set_option maxHeartbeats 2000000 in
/-- Shift to the right. -/
theorem shiftR_any (f n : Nat) (h1 : 1 ≤ n) (hf : n ≤ 60 * f + 60) (hf2 : f ≤ 3000) (a : Nat) (neg : Bool) {S : Dst} (hS : Good S) (hdp : -20000 ≤ S.dp ∧ S.dp ≤ 20000) (w : World) (h : In a neg S w) :
    Calls Tryd.prog 75 #[.pointer (some ⟨a, 0, none⟩), .int .i64 (-(n : Int))] w fun e w' => e = .returned (.tuple #[]) ∧ In a neg (rsMany f n S) w' ∧ Below a w w' := by
  have cn := h.nd
  have hn := hS.n1
  have hnz : ¬ ((S.nd : Int) = 0) := by omega
  have hkz : ¬ ((0 : Int) < -(n : Int)) := by omega
  have hkz2 : -(n : Int) < 0 := by omega
  have H0 := hide (And.intro hS h)
  clear h
  go_enter Tryd.func75, Tryd.ntmps75
  go_wp2
  go_loopg [1] f (fun gf s1 wx => ∃ (m : Nat) (R : Dst), s1 = .int .i64 (-(m : Int)) ∧ 1 ≤ m ∧ m ≤ 60 * gf + 60 ∧ m ≤ n ∧ gf ≤ f ∧ R.dp ≤ 20000 ∧ S.dp - 24 * ((f : Int) - gf) ≤ R.dp ∧ Hid (Good R ∧ rsMany gf m R = rsMany f n S ∧ In a neg R wx ∧ Below a w wx))
  case atStart => exact ⟨n, S, rfl, h1, hf, Nat.le_refl _, Nat.le_refl _, by omega, by omega, (unhide H0).1, rfl, (unhide H0).2, Below.refl _ _⟩
  case round =>
    obtain ⟨m, R, rfl, hm1, hmf, hmn, hgf, hd1, hd2, HH⟩ := hrel
    by_cases hm : m ≤ 60
    · have hmz : ¬ (-(m : Int) < -60) := by omega
      have HE := hide (show rsMany f n S = rsS m R by
        rw [← (unhide HH).2.1]
        cases gk with
        | zero => rfl
        | succ g => unfold rsMany; rw [if_pos hm])
      have HC := hide (rightS_any hm1 hm a neg (unhide HH).1 (by omega) wr (unhide HH).2.2.1)
      go_wp2_with (go_at_call 85; refine (unhide HC).mono ?_; rintro e w' ⟨rfl, h6, hb6⟩)
      go_end0
      rw [unhide HE]
      exact ⟨rfl, h6, (unhide HH).2.2.2.trans hb6⟩
    · have hmz : -(m : Int) < -60 := by omega
      cases gk with
      | zero => omega
      | succ g =>
        have hg := right_good (k := 60) (by decide) (by decide) (unhide HH).1
        have hg1 := hg.2.1
        have hg2 := hg.2.2.1
        have HE := hide (show rsMany g (m - 60) (rsS 60 R) = rsMany f n S by
          rw [← (unhide HH).2.1]
          conv => rhs; unfold rsMany
          rw [if_neg hm])
        have HG := hide hg.1
        have HC := hide (rightS_any (k := 60) (by decide) (by decide) a neg (unhide HH).1 (by omega) wr (unhide HH).2.2.1)
        obtain ⟨m', hm'⟩ : ∃ m', m = m' + 60 := ⟨m - 60, by omega⟩
        subst hm'
        rw [show m' + 60 - 60 = m' by omega] at HE
        go_wp2_with (go_at_call 85; refine (unhide HC).mono ?_; rintro e w' ⟨rfl, h6, hb6⟩)
        go_roundg g
        case measure => omega
        case rel => exact ⟨m', rsS 60 R, by congr 1; omega, by omega, by omega, by omega, by omega, by omega, by omega, unhide HG, unhide HE, h6, (unhide HH).2.2.2.trans hb6⟩
end Go.Proofs.Qxb6606071aDoor.Fl
