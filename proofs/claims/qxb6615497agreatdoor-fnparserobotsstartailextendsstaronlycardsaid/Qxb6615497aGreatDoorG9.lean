import Derived.Test.Qxb6615497aGreatDoorE1
import Derived.Below
import Derived.Deep.LoopGhost
/- unicode.SimpleFold at ASCII and at the two runes that fold to ASCII. -/
namespace Go.Proofs.Qxb6615497aGreatDoor
open Go Go.RowKit

def afL : List Nat := [0, 1, 2, 3, 4, 5, 6, 7, 8, 9, 10, 11, 12, 13, 14, 15, 16, 17, 18, 19, 20, 21, 22, 23, 24, 25, 26, 27, 28, 29, 30, 31, 32, 33, 34, 35, 36, 37, 38, 39, 40, 41, 42, 43, 44, 45, 46, 47, 48, 49, 50, 51, 52, 53, 54, 55, 56, 57, 58, 59, 60, 61, 62, 63, 64, 97, 98, 99, 100, 101, 102, 103, 104, 105, 106, 107, 108, 109, 110, 111, 112, 113, 114, 115, 116, 117, 118, 119, 120, 121, 122, 91, 92, 93, 94, 95, 96, 65, 66, 67, 68, 69, 70, 71, 72, 73, 74, 8490, 76, 77, 78, 79, 80, 81, 82, 383, 84, 85, 86, 87, 88, 89, 90, 123, 124, 125, 126, 127]
def orbFL : List Nat := [75, 83, 107, 115, 181, 197, 223, 229, 304, 305, 383, 452, 453, 454, 455, 456, 457, 458, 459, 460, 497, 498, 499, 837, 912, 914, 917, 920, 921, 922, 924, 928, 929, 931, 934, 937, 944, 946, 949, 952, 953, 954, 956, 960, 961, 962, 963, 966, 969, 976, 977, 981, 982, 1008, 1009, 1012, 1013, 1042, 1044, 1054, 1057, 1058, 1066, 1074, 1076, 1086, 1089, 1090, 1098, 1122, 1123, 7296, 7297, 7298, 7299, 7300, 7301, 7302, 7303, 7304, 7776, 7777, 7835, 7838, 8126, 8147, 8163, 8486, 8490, 8491, 42570, 42571, 64261, 64262]
def orbTL : List Nat := [107, 115, 8490, 383, 924, 229, 7838, 8491, 304, 305, 83, 453, 454, 452, 456, 457, 455, 459, 460, 458, 498, 499, 497, 921, 8147, 946, 949, 952, 953, 954, 956, 960, 961, 962, 966, 969, 8163, 976, 1013, 977, 8126, 1008, 181, 982, 1009, 963, 931, 981, 8486, 914, 1012, 934, 928, 922, 929, 920, 917, 1074, 1076, 1086, 1089, 1090, 1098, 7296, 7297, 7298, 7299, 7300, 7302, 1123, 7303, 1042, 1044, 1054, 1057, 7301, 1058, 1066, 1122, 42570, 7777, 7835, 7776, 223, 837, 912, 944, 937, 75, 197, 42571, 7304, 64262, 64261]
def aF (k : Nat) : Nat := afL.getD k 0
def orbF (k : Nat) : Nat := orbFL.getD k 0
def orbT (k : Nat) : Nat := orbTL.getD k 0

structure FoldTabs (w : World) : Prop where
  big : 2 < w.heap.size
  asc : ∀ k, k < 128 → w.cell? ⟨1, k, none⟩ = some (.int .u16 (aF k))
  orb : ∃ T oT cap, T < w.heap.size ∧ w.cell? ⟨2, 0, none⟩ = some (.slice (some ⟨T, oT, none⟩) 94 cap) ∧ ∀ k, k < 94 → w.cell? ⟨T, oT + k * 2, none⟩ = some (.int .u16 (orbF k)) ∧ w.cell? ⟨T, oT + k * 2 + 1, none⟩ = some (.int .u16 (orbT k))
theorem FoldTabs.stay {a : Nat} {w w' : World} (h : FoldTabs w) (ha : w.heap.size ≤ a) (hb : Below a w w') : FoldTabs w' := by
  have h2 := h.big
  have hz := hb.size
  obtain ⟨T, oT, cap, h3, h4, h5⟩ := h.orb
  exact ⟨by omega, fun k hk => (hb.cell (p := ⟨1, k, none⟩) (by show 1 < a; omega)).trans (h.asc k hk), T, oT, cap, by omega, (hb.cell (p := ⟨2, 0, none⟩) (by show 2 < a; omega)).trans h4,
    fun k hk => ⟨(hb.cell (p := ⟨T, oT + k * 2, none⟩) (by show T < a; omega)).trans (h5 k hk).1, (hb.cell (p := ⟨T, oT + k * 2 + 1, none⟩) (by show T < a; omega)).trans (h5 k hk).2⟩⟩

theorem aF_small (k : Nat) (h : k < 128) : aF k ≤ 10000 := by
  have all : ∀ i : Fin 128, aF i.val ≤ 10000 := by decide +kernel
  exact all ⟨k, h⟩
theorem orb_small (k : Nat) (h : k < 94) : orbF k ≤ 65535 ∧ orbT k ≤ 65535 := by
  have all : ∀ i : Fin 94, orbF i.val ≤ 65535 ∧ orbT i.val ≤ 65535 := by decide +kernel
  exact all ⟨k, h⟩

set_option maxHeartbeats 1000000 in
set_option maxRecDepth 100000 in
theorem simpleFold_ascii (r : Nat) (h : r < 128) (w : World) (hT : FoldTabs w) :
    Calls Tryz.prog 54 #[.int .i32 r] w fun e w' => e = .returned (.int .i32 (aF r)) ∧ w' = w := by
  have c := hT.asc r h
  have hs := aF_small r h
  have z1 : ¬ ((r : Int) < 0) := by omega
  have z2 : ¬ ((1114111 : Int) < (r : Int)) := by omega
  have z3 : (r : Int) < 128 := by omega
  clear hT
  generalize aF r = v at *
  go_enter Tryz.func54, Tryz.ntmps54
  go_wp2
  go_ret
  exact ⟨rfl, rfl⟩

/-- the search in caseOrbit. -/
def bsr (r : Nat) : Nat → Nat → Nat → Nat
  | 0, lo, _ => lo
  | f + 1, lo, hi => if lo < hi then (if orbF ((lo + hi) / 2) < r then bsr r f ((lo + hi) / 2 + 1) hi else bsr r f lo ((lo + hi) / 2)) else lo

set_option maxHeartbeats 2000000 in
set_option maxRecDepth 100000 in
theorem simpleFold_orb (r k : Nat) (h0 : 128 ≤ r) (h1 : r ≤ 65535) (hk : bsr r 94 0 94 = k) (hk9 : k < 94) (hf : orbF k = r) (w : World) (hT : FoldTabs w) :
    Calls Tryz.prog 54 #[.int .i32 r] w fun e w' => e = .returned (.int .i32 (orbT k)) ∧ w' = w := by
  obtain ⟨T, oT, cap, _, cT, cK⟩ := hT.orb
  have z1 : ¬ ((r : Int) < 0) := by omega
  have z2 : ¬ ((1114111 : Int) < (r : Int)) := by omega
  have z3 : ¬ ((r : Int) < 128) := by omega
  have HCK := hide cK
  have HK := hide hk
  have HF := hide hf
  clear cK hT hk hf
  go_enter Tryz.func54, Tryz.ntmps54
  go_wp2
  go_loopg [3, 4, 5] 94 (fun gf s3 s4 s5 wx => ∃ lo hi : Nat, s3 = .int .i64 lo ∧ s4 = .int .i64 hi ∧ lo ≤ hi ∧ hi ≤ 94 ∧ hi ≤ lo + gf ∧ Hid (bsr r gf lo hi = k) ∧ wx = w)
  case atStart => exact ⟨0, 94, rfl, rfl, by omega, by omega, by omega, HK, rfl⟩
  case round =>
    obtain ⟨lo, hi, rfl, rfl, hlh, hh9, hfu, HB, rfl⟩ := hrel
    by_cases hlt : lo < hi
    · obtain ⟨g, rfl⟩ : ∃ g, gk = g + 1 := ⟨gk - 1, by omega⟩
      have ltz : (lo : Int) < (hi : Int) := by omega
      obtain ⟨m, hm⟩ : ∃ m, (lo + hi) / 2 = m := ⟨_, rfl⟩
      have hm1 : lo ≤ m := by omega
      have hm2 : m < hi := by omega
      have hmz : ((lo : Int) + (hi : Int)) / 2 = (m : Int) := by omega
      have c := (unhide HCK m (by omega)).1
      have hs := (orb_small m (by omega)).1
      have hm94 : (m : Int) < 94 := by omega
      have HE := hide (show (if orbF m < r then bsr r g (m + 1) hi else bsr r g lo m) = k by
        rw [← unhide HB]
        conv => rhs; unfold bsr
        rw [if_pos hlt, hm])
      by_cases hc : orbF m < r
      · rw [if_pos hc] at HE
        have hcz : (orbF m : Int) < (r : Int) := by omega
        generalize orbF m = v at *
        clear hm
        go_wp2
        go_roundg g
        case measure => omega
        case rel => exact ⟨m + 1, hi, by go_num, rfl, by omega, by omega, by omega, HE, rfl⟩
      · rw [if_neg hc] at HE
        have hcz : ¬ ((orbF m : Int) < (r : Int)) := by omega
        generalize orbF m = v at *
        clear hm
        go_wp2
        go_roundg g
        case measure => omega
        case rel => exact ⟨lo, m, rfl, rfl, by omega, by omega, by omega, HE, rfl⟩
    · have ltz : ¬ ((lo : Int) < (hi : Int)) := by omega
      have e : lo = k := by
        have h := unhide HB
        cases gk with
        | zero => exact h
        | succ g => unfold bsr at h; rw [if_neg hlt] at h; exact h
      subst e
      have c1 := (unhide HCK lo (by omega)).1
      have c2 := (unhide HCK lo (by omega)).2
      rw [unhide HF] at c1
      have hs := (orb_small lo (by omega)).2
      have l9 : (lo : Int) < 94 := by omega
      obtain ⟨v, hv⟩ : ∃ v, orbT lo = v := ⟨_, rfl⟩
      rw [hv] at c2 hs
      have HV := hide hv
      clear hv
      go_wp2
      go_ret
      exact ⟨by rw [unhide HV]; rfl, rfl⟩

def sF (r : Nat) : Nat := if r < 128 then aF r else if r = 383 then 83 else if r = 8490 then 75 else r
def sDom (r : Nat) : Prop := r < 128 ∨ r = 383 ∨ r = 8490
theorem simpleFold_any (r : Nat) (h : sDom r) (w : World) (hT : FoldTabs w) :
    Calls Tryz.prog 54 #[.int .i32 r] w fun e w' => e = .returned (.int .i32 (sF r)) ∧ w' = w := by
  rcases h with h | rfl | rfl
  · have e : sF r = aF r := if_pos h
    rw [e]
    exact simpleFold_ascii r h w hT
  · exact simpleFold_orb 383 10 (by decide) (by decide) (by decide +kernel) (by decide) (by decide +kernel) w hT
  · exact simpleFold_orb 8490 88 (by decide) (by decide) (by decide +kernel) (by decide) (by decide +kernel) w hT

/-- back at s in at most so many steps. -/
def reach (s : Nat) : Nat → Nat → Bool
  | 0, r => r == s
  | g + 1, r => r == s || reach s g (sF r)
theorem fold_ring (s : Nat) (h : s < 128) : reach s 2 (sF s) = true ∧ (sF s < 128 ∨ sF s = 383 ∨ sF s = 8490) ∧ (sF (sF s) < 128 ∨ sF (sF s) = 383 ∨ sF (sF s) = 8490) := by
  have all : ∀ i : Fin 128, reach i.val 2 (sF i.val) = true ∧ (sF i.val < 128 ∨ sF i.val = 383 ∨ sF i.val = 8490) ∧ (sF (sF i.val) < 128 ∨ sF (sF i.val) = 383 ∨ sF (sF i.val) = 8490) := by decide +kernel
  exact all ⟨s, h⟩
end Go.Proofs.Qxb6615497aGreatDoor
