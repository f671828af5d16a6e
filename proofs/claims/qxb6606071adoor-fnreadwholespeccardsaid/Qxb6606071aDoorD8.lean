import Derived.Test.Qxb6606071aDoorD7
/- RoundedInteger. -/
namespace Go.Proofs.Qxb6606071aDoor.Fl
open Go.RowKit

/-- the integer's digits gathered, the machine's way. -/
def gather (S : Dst) : Nat → Int
  | 0 => 0
  | i + 1 => if i < S.nd then IntKind.u64.wrap (IntKind.u64.wrap (gather S i * 10) + (S.D i - 48)) else IntKind.u64.wrap (gather S i * 10)

def rounded (S : Dst) (n : Nat) : Int := if roundsUp S n then IntKind.u64.wrap (gather S n + 1) else gather S n

set_option maxHeartbeats 2000000 in
set_option maxRecDepth 100000 in
theorem rounded_any (a : Nat) (neg : Bool) {S : Dst} (hS : Good S) (n : Nat) (hn : n ≤ 20) (hdp : S.dp = n) (w : World) (h : In a neg S w) :
    Calls Tryd.prog 76 #[.pointer (some ⟨a, 0, none⟩)] w fun e w' => e = .returned (.int .u64 (rounded S n)) ∧ ∃ q, w' = w.drewN q := by
  have cn := h.nd
  have cp := h.dp
  rw [hdp] at cp
  have h20 : ¬ ((20 : Int) < (n : Int)) := by omega
  have HR := hide (roundsUp_any a neg hS n (by omega))
  have H0 := hide h
  clear h
  go_enter Tryd.func76, Tryd.ntmps76
  go_wp2
  go_loopg [3, 4] n (fun gf s3 s4 wx => ∃ i : Nat, i + gf = n ∧ s3 = .int .i64 i ∧ s4 = .int .u64 (gather S i) ∧ i ≤ S.nd ∧ wx = w)
  case atStart => exact ⟨0, by omega, rfl, rfl, by omega, rfl⟩
  case round =>
    obtain ⟨i, hig, rfl, rfl, hin, rfl⟩ := hrel
    by_cases hlt : i < n ∧ i < S.nd
    · obtain ⟨g, rfl⟩ : ∃ g, gk = g + 1 := ⟨gk - 1, by omega⟩
      have z1 : (i : Int) < (n : Int) := by omega
      have z2 : (i : Int) < (S.nd : Int) := by omega
      have hd := hS.dig i hlt.2
      have cd := (unhide H0).dig i (by have := hS.n8; omega)
      have hi8 : (i : Int) < 800 := by have := hS.n8; omega
      have hg : gather S (i + 1) = IntKind.u64.wrap (IntKind.u64.wrap (gather S i * 10) + (S.D i - 48)) := by
        conv => lhs; unfold gather
        rw [if_pos hlt.2]
      have HG := hide hg
      generalize gather S i = G at *
      clear hg
      go_wp2
      go_roundg g
      case measure => omega
      case rel => exact ⟨i + 1, by omega, by go_num, by rw [unhide HG], by omega, rfl⟩
    · by_cases hin2 : i < n
      · have z1 : (i : Int) < (n : Int) := by omega
        have z2 : ¬ ((i : Int) < (S.nd : Int)) := by omega
        go_wp2
        go_loopg [3, 4] (n - i) (fun gf s3 s4 wx => ∃ j : Nat, j + gf = n ∧ S.nd ≤ j ∧ s3 = .int .i64 j ∧ s4 = .int .u64 (gather S j) ∧ wx = wr)
        case atStart => exact ⟨i, by omega, by omega, rfl, rfl, rfl⟩
        case round =>
          obtain ⟨j, hjg, hjn, rfl, rfl, rfl⟩ := hrel
          cases gk with
          | zero =>
            obtain rfl : j = n := by omega
            have z3 : ¬ ((j : Int) < (j : Int)) := by omega
            have HC := hide (unhide HR wr (unhide H0))
            have HE := hide (show rounded S j = if roundsUp S j then IntKind.u64.wrap (gather S j + 1) else gather S j from rfl)
            cases hru : roundsUp S j
            · rw [hru] at HC HE
              go_wp2_with (go_at_call 86; refine (unhide HC).mono ?_; rintro e w' ⟨rfl, q, rfl⟩)
              go_ret
              exact ⟨by rw [unhide HE]; rfl, q, rfl⟩
            · rw [hru] at HC HE
              go_wp2_with (go_at_call 86; refine (unhide HC).mono ?_; rintro e w' ⟨rfl, q, rfl⟩)
              go_ret
              exact ⟨by rw [unhide HE]; rfl, q, rfl⟩
          | succ g =>
            have z3 : (j : Int) < (n : Int) := by omega
            have hg : gather S (j + 1) = IntKind.u64.wrap (gather S j * 10) := by
              conv => lhs; unfold gather
              rw [if_neg (by omega)]
            have HG := hide hg
            generalize gather S j = G at *
            clear hg
            go_wp2
            go_roundg g
            case measure => omega
            case rel => exact ⟨j + 1, by omega, by omega, by go_num, by rw [unhide HG], rfl⟩
      · obtain rfl : i = n := by omega
        have z1 : ¬ ((i : Int) < (i : Int)) := by omega
        have HC := hide (unhide HR wr (unhide H0))
        have HE := hide (show rounded S i = if roundsUp S i then IntKind.u64.wrap (gather S i + 1) else gather S i from rfl)
        go_wp2
        go_loopg [3, 4] 0 (fun gf s3 s4 wx => s3 = .int .i64 i ∧ s4 = .int .u64 (gather S i) ∧ wx = wr)
        case atStart => exact ⟨rfl, rfl, rfl⟩
        case round =>
          obtain ⟨rfl, rfl, rfl⟩ := hrel
          cases hru : roundsUp S i
          · rw [hru] at HC HE
            go_wp2_with (go_at_call 86; refine (unhide HC).mono ?_; rintro e w' ⟨rfl, q, rfl⟩)
            go_ret
            exact ⟨by rw [unhide HE]; rfl, q, rfl⟩
          · rw [hru] at HC HE
            go_wp2_with (go_at_call 86; refine (unhide HC).mono ?_; rintro e w' ⟨rfl, q, rfl⟩)
            go_ret
            exact ⟨by rw [unhide HE]; rfl, q, rfl⟩
end Go.Proofs.Qxb6606071aDoor.Fl
