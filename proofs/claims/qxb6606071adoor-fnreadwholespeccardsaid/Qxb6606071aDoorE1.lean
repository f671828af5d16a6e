import Derived.Test.Qxb6606071aDoorN0
import Derived.Below
import Derived.Laws.Externs
import Derived.Laws.MathBits
/- strconv's fast road: its small functions. -/
namespace Go.Proofs.Qxb6606071aDoor.Fl
open Go Go.RowKit

theorem frombits_run (x : Int) (w : World) : (callFunc 56 #[.int .u64 x]).run Tryd.prog w = .ok (.value (.float .f64 x.toNat)) w := by
  rw [run_callFunc_extern Tryd.func56 (by kernel_rfl) (by kernel_rfl) (by kernel_rfl) (e := Extern.MathFloatBits.float64frombits) (by kernel_rfl)]
  rfl

theorem bitLen_le64 (x : Nat) (h : x < 18446744073709551616) : bitLen x ≤ 64 := by
  unfold bitLen
  split
  · omega
  · rename_i h0
    have := (Nat.log2_lt h0).2 (show x < 2 ^ 64 from h)
    omega

theorem len_fold (x : Int) (hx0 : 0 ≤ x) (b : Nat) (y : Int) (hy : y = x / 2 ^ b) (h : y ≠ 0) : bitLen x.toNat = b + bitLen y.toNat := by
  obtain ⟨n, rfl⟩ := Int.eq_ofNat_of_zero_le hx0
  have e : y = ((n / 2 ^ b : Nat) : Int) := by rw [hy]; simp
  subst e
  rw [Int.toNat_natCast, Int.toNat_natCast]
  exact bitLen_shift n b (by omega)

theorem wrap64_small (z : Int) (h0 : -1000000 ≤ z) (h1 : z ≤ 1000000) : wrap64 z = z := by
  unfold wrap64
  omega

set_option maxHeartbeats 1000000 in
set_option maxRecDepth 100000 in
theorem len64_any (x : Int) (hx : 0 ≤ x ∧ x < 18446744073709551616) (w : World) :
    Calls Tryd.prog 67 #[.int .u64 x] w fun e w' => e = .returned (.int .i64 (bitLen x.toNat)) ∧ w' = w := by
  have fin : ∀ (y : Int) (b : Nat), b ≤ 64 → 0 ≤ y → y < 256 → wrap64 ((b : Int) + wrap64 (bitLen y.toNat : Int)) = b + (bitLen y.toNat : Int) := by
    intro y b hb h0 h1
    have := bitLen_le8 y.toNat (by omega)
    rw [wrap64_small (bitLen y.toNat : Int) (by omega) (by omega), wrap64_small _ (by omega) (by omega)]
  have fin0 : ∀ (y : Int), 0 ≤ y → y < 256 → wrap64 (bitLen y.toNat : Int) = (bitLen y.toNat : Int) := by
    intro y h0 h1
    have := bitLen_le8 y.toNat (by omega)
    rw [wrap64_small _ (by omega) (by omega)]
  by_cases h1 : 4294967296 ≤ x
  · by_cases h2 : 65536 ≤ x / 4294967296
    · by_cases h3 : 256 ≤ x / 4294967296 / 65536
      · have hl := len_fold x hx.1 56 (x / 4294967296 / 65536 / 256) (by first | omega | (simp; omega) | simp) (by omega)
        have hf := fin (x / 4294967296 / 65536 / 256) 56 (by omega) (by omega) (by omega)
        go_enter Tryd.func67, Tryd.ntmps67
        go_wp2
        go_ret
        rw [len8tab_get]
        exact ⟨by rw [hl]; simpa using hf, rfl⟩
      · have hl := len_fold x hx.1 48 (x / 4294967296 / 65536) (by first | omega | (simp; omega) | simp) (by omega)
        have hf := fin (x / 4294967296 / 65536) 48 (by omega) (by omega) (by omega)
        go_enter Tryd.func67, Tryd.ntmps67
        go_wp2
        go_ret
        rw [len8tab_get]
        exact ⟨by rw [hl]; simpa using hf, rfl⟩
    · by_cases h3 : 256 ≤ x / 4294967296
      · have hl := len_fold x hx.1 40 (x / 4294967296 / 256) (by first | omega | (simp; omega) | simp) (by omega)
        have hf := fin (x / 4294967296 / 256) 40 (by omega) (by omega) (by omega)
        go_enter Tryd.func67, Tryd.ntmps67
        go_wp2
        go_ret
        rw [len8tab_get]
        exact ⟨by rw [hl]; simpa using hf, rfl⟩
      · have hl := len_fold x hx.1 32 (x / 4294967296) (by first | omega | (simp; omega) | simp) (by omega)
        have hf := fin (x / 4294967296) 32 (by omega) (by omega) (by omega)
        go_enter Tryd.func67, Tryd.ntmps67
        go_wp2
        go_ret
        rw [len8tab_get]
        exact ⟨by rw [hl]; simpa using hf, rfl⟩
  · by_cases h2 : 65536 ≤ x
    · by_cases h3 : 256 ≤ x / 65536
      · have hl := len_fold x hx.1 24 (x / 65536 / 256) (by first | omega | (simp; omega) | simp) (by omega)
        have hf := fin (x / 65536 / 256) 24 (by omega) (by omega) (by omega)
        go_enter Tryd.func67, Tryd.ntmps67
        go_wp2
        go_ret
        rw [len8tab_get]
        exact ⟨by rw [hl]; simpa using hf, rfl⟩
      · have hl := len_fold x hx.1 16 (x / 65536) (by first | omega | (simp; omega) | simp) (by omega)
        have hf := fin (x / 65536) 16 (by omega) (by omega) (by omega)
        go_enter Tryd.func67, Tryd.ntmps67
        go_wp2
        go_ret
        rw [len8tab_get]
        exact ⟨by rw [hl]; simpa using hf, rfl⟩
    · by_cases h3 : 256 ≤ x
      · have hl := len_fold x hx.1 8 (x / 256) (by first | omega | (simp; omega) | simp) (by omega)
        have hf := fin (x / 256) 8 (by omega) (by omega) (by omega)
        go_enter Tryd.func67, Tryd.ntmps67
        go_wp2
        go_ret
        rw [len8tab_get]
        exact ⟨by rw [hl]; simpa using hf, rfl⟩
      · have hf := fin0 x (by omega) (by omega)
        go_enter Tryd.func67, Tryd.ntmps67
        go_wp2
        go_ret
        rw [len8tab_get]
        exact ⟨by simp only [Ending.returned.injEq, Array.getD]; simp [hf], rfl⟩

theorem wrap_u64_mod (z : Int) : IntKind.u64.wrap z = z % 18446744073709551616 := by
  unfold IntKind.wrap
  simp [IntKind.signed, IntKind.bits]
theorem wrapU_range (z : Int) : 0 ≤ IntKind.u64.wrap z ∧ IntKind.u64.wrap z < 18446744073709551616 := by
  rw [wrap_u64_mod]; omega

set_option maxHeartbeats 1000000 in
set_option maxRecDepth 100000 in
theorem mul64_any (x y : Int) (hx : 0 ≤ x ∧ x < 18446744073709551616) (hy : 0 ≤ y ∧ y < 18446744073709551616) (w : World) :
    Calls Tryd.prog 83 #[.int .u64 x, .int .u64 y] w fun e w' => e = .returned (.tuple #[.int .u64 (x * y / 18446744073709551616), .int .u64 (IntKind.u64.wrap (x * y))]) ∧ w' = w := by
  have ha := mul64_arith x y hx.1 hx.2 hy.1 hy.2
  have bx := and_low32 x hx.1 hx.2
  have by' := and_low32 y hy.1 hy.2
  have bw := fun z => and_low32 (IntKind.u64.wrap z) (wrapU_range z).1 (wrapU_range z).2
  rw [← ha]
  clear ha
  have HB := hide (And.intro bx (And.intro by' bw))
  clear bx by' bw
  go_enter Tryd.func83, Tryd.ntmps83
  go_wp2
  go_ret2
  rw [(unhide HB).1, (unhide HB).2.1, (unhide HB).2.2]
  simp only [wrap_u64_mod]
  exact ⟨rfl, trivial⟩

def lp10 (p : Int) : Int := p * 108853 / 32768
def unminF (x : Int) : Int := IntKind.u64.wrap (IntKind.u64.wrap (x * 4) - 2)
def roundF (u : Int) : Int := IntKind.u64.wrap (IntKind.u64.wrap (u + 1) + bits BinOp.and .u64 (u / 4) 1) / 4
def boolI (b : Bool) : Int := if b then 1 else 0

set_option maxHeartbeats 1000000 in
set_option maxRecDepth 100000 in
theorem log2Pow10_any (x : Int) (hx : -1000 ≤ x ∧ x ≤ 1000) (w : World) : Calls Tryd.prog 68 #[.int .i64 x] w fun e w' => e = .returned (.int .i64 (lp10 x)) ∧ w' = w := by
  go_enter Tryd.func68, Tryd.ntmps68
  go_wp2
  go_ret
  exact ⟨rfl, rfl⟩
set_option maxHeartbeats 1000000 in
set_option maxRecDepth 100000 in
theorem unmin_any (x : Int) (w : World) : Calls Tryd.prog 72 #[.int .u64 x] w fun e w' => e = .returned (.int .u64 (unminF x)) ∧ w' = w := by
  go_enter Tryd.func72, Tryd.ntmps72
  go_wp2
  go_ret
  exact ⟨rfl, rfl⟩
set_option maxHeartbeats 1000000 in
set_option maxRecDepth 100000 in
theorem round_any (x : Int) (w : World) : Calls Tryd.prog 74 #[.int .u64 x] w fun e w' => e = .returned (.int .u64 (roundF x)) ∧ w' = w := by
  go_enter Tryd.func74, Tryd.ntmps74
  go_wp2
  go_ret
  exact ⟨rfl, rfl⟩
set_option maxHeartbeats 1000000 in
theorem bool2U_any (b : Bool) (w : World) : Calls Tryd.prog 55 #[.bool b] w fun e w' => e = .returned (.int .u64 (boolI b)) ∧ w' = w := by
  go_enter Tryd.func55, Tryd.ntmps55
  cases b
  · go_wp2
    go_ret
    exact ⟨rfl, rfl⟩
  · go_wp2
    go_ret
    exact ⟨rfl, rfl⟩
set_option maxHeartbeats 1000000 in
theorem bool2I_any (b : Bool) (w : World) : Calls Tryd.prog 71 #[.bool b] w fun e w' => e = .returned (.int .i64 (boolI b)) ∧ w' = w := by
  go_enter Tryd.func71, Tryd.ntmps71
  cases b
  · go_wp2
    go_ret
    exact ⟨rfl, rfl⟩
  · go_wp2
    go_ret
    exact ⟨rfl, rfl⟩

/-- nil, or ErrRange. -/
def errV (b : Bool) : Value := if b then .iface 55 (.int .i64 1) else .nilIface
def packF (m e : Int) : Nat × Bool :=
  if bits BinOp.and .u64 m 4503599627370496 = 0 then (m.toNat, false)
  else if 972 ≤ e then ((bits BinOp.or .u64 (bits BinOp.and .u64 m 9223372036854775808) 9218868437227405312).toNat, true)
  else ((bits BinOp.or .u64 (bits BinOp.andNot .u64 m 4503599627370496) (IntKind.u64.wrap (IntKind.u64.wrap (1075 + e) * 4503599627370496))).toNat, false)

set_option maxHeartbeats 1000000 in
set_option maxRecDepth 100000 in
theorem pack64_any (m e : Int) (he : -3000 ≤ e ∧ e ≤ 3000) (w : World) :
    Calls Tryd.prog 77 #[.int .u64 m, .int .i64 e] w fun r w' => r = .returned (.tuple #[.float .f64 (packF m e).1, errV (packF m e).2]) ∧ w' = w := by
  have hd := frombits_run
  unfold packF
  by_cases h0 : bits BinOp.and .u64 m 4503599627370496 = 0
  · rw [if_pos h0]
    go_enter Tryd.func77, Tryd.ntmps77
    go_wp2
    go_ret2
    exact ⟨rfl, rfl⟩
  · rw [if_neg h0]
    by_cases h1 : 972 ≤ e
    · rw [if_pos h1]
      go_enter Tryd.func77, Tryd.ntmps77
      go_wp2
      go_ret2
      exact ⟨rfl, rfl⟩
    · rw [if_neg h1]
      go_enter Tryd.func77, Tryd.ntmps77
      go_wp2
      go_ret2
      exact ⟨rfl, rfl⟩
end Go.Proofs.Qxb6606071aDoor.Fl
