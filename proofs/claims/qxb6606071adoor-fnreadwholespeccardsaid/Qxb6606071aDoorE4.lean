import Derived.Test.Qxb6606071aDoorE3
import Derived.Test.Qxb6606071aDoorF1
/- atof64exact. -/
namespace Go.Proofs.Qxb6606071aDoor.Fl
open Go Go.RowKit

/-- float64pow10. -/
def fp10 : List Nat := [4607182418800017408, 4621819117588971520, 4636737291354636288, 4652007308841189376, 4666723172467343360, 4681608360884174848, 4696837146684686336, 4711630319722168320, 4726483295884279808, 4741671816366391296, 4756540486875873280, 4771362005757984768, 4786511204640096256, 4801453603149578240, 4816244402031689728, 4831355200913801216, 4846369599423283200, 4861130398305394688, 4876203697187506176, 4891288408196988160, 4906019910204099648, 4921056587992461136, 4936209963552724370]
def p10 (k : Nat) : Nat := fp10.getD k 1
theorem p10_ok (k : Nat) : p10 k < infW ∧ p10 k ≠ 0 := by
  by_cases h : k < 23
  · have : ∀ i, i < 23 → p10 i < infW ∧ p10 i ≠ 0 := by decide
    exact this k h
  · unfold p10
    rw [List.getD_eq_getElem?_getD, List.getElem?_eq_none (by simp [fp10]; omega)]
    decide
structure F10 (w : World) : Prop where
  tab : ∃ T oT cap, w.cell? ⟨9, 0, none⟩ = some (.slice (some ⟨T, oT, none⟩) 23 cap) ∧ T < w.heap.size ∧ ∀ k, k < 23 → w.cell? ⟨T, oT + k, none⟩ = some (.float .f64 (p10 k))

/-- is it beyond 1e15? -/
def beyond (f : Nat) : Bool := FloatKind.f64.format.order f 4831355200913801216 == some .gt || FloatKind.f64.format.order f 14054727237768577024 == some .lt
def exF (neg : Bool) (d p : Int) : Nat × Bool :=
  if d / 4503599627370496 ≠ 0 then (0, false)
  else if p = 0 then (wd neg (floatOfInt .f64 d), true)
  else if 0 < p ∧ p ≤ 37 then
    if 22 < p then
      if beyond (wd neg (mulR neg (floatOfInt .f64 d) (p10 (p - 22).toNat))) then (wd neg (mulR neg (floatOfInt .f64 d) (p10 (p - 22).toNat)), false)
      else (wd neg (mulR neg (mulR neg (floatOfInt .f64 d) (p10 (p - 22).toNat)) (p10 22)), true)
    else
      if beyond (wd neg (floatOfInt .f64 d)) then (wd neg (floatOfInt .f64 d), false)
      else (wd neg (mulR neg (floatOfInt .f64 d) (p10 p.toNat)), true)
  else if p < 0 ∧ -22 ≤ p then (wd neg (divR neg (floatOfInt .f64 d) (p10 (-p).toNat)), true)
  else (wd neg (floatOfInt .f64 d), false)

theorem unary_negf (b : Nat) : Op.unary .neg (.float .f64 b) = pure (.float .f64 (Op.negFloat .f64 b)) := rfl
attribute [local go_sem] unary_negf
theorem wd_false (x : Nat) : wd false x = x := by unfold wd; rw [if_neg (by decide)]
theorem mulR_run (neg : Bool) (x y : Nat) (hx : x ≤ infW) (hy : y < infW) (hy0 : y ≠ 0) (w : World) : (binOp .mul 28 (.float .f64 (wd neg x)) (.float .f64 y)).run Tryd.prog w = .ok (.float .f64 (wd neg (mulR neg x y))) w :=
  run_float_arith w .mul 28 .f64 (wd neg x) y _ (mulR_some neg x y hx hy hy0).1
theorem divR_run (neg : Bool) (x y : Nat) (hx : x ≤ infW) (hy : y < infW) (hy0 : y ≠ 0) (w : World) : (binOp .quo 28 (.float .f64 (wd neg x)) (.float .f64 y)).run Tryd.prog w = .ok (.float .f64 (wd neg (divR neg x y))) w :=
  run_float_arith w .quo 28 .f64 (wd neg x) y _ (divR_some neg x y hx hy hy0).1

set_option maxHeartbeats 1000000 in
set_option maxRecDepth 100000 in
theorem exact_pos (d p : Int) (hd : 0 ≤ d) (hp : -345 ≤ p ∧ p ≤ 310) (w : World) (i1 : w.cell? ⟨4, 0, none⟩ = some (.int .u64 52)) (hT : F10 w) :
    Calls Tryd.prog 57 #[.int .u64 d, .int .i64 p, .bool false] w fun e w' => e = .returned (.tuple #[.float .f64 (exF false d p).1, .bool (exF false d p).2]) ∧ w' = w := by
  obtain ⟨T, oT, cap, ct, hT2, ck⟩ := hT.tab
  clear hT hT2
  have h0 := ofInt_le d hd
  have HK := hide ck
  clear ck
  unfold exF
  simp only [wd_false]
  by_cases c1 : d / 4503599627370496 = 0
  · rw [if_neg (by omega)]
    by_cases c2 : p = 0
    · rw [if_pos c2]
      subst c2
      go_enter Tryd.func57, Tryd.ntmps57
      go_wp2
      go_ret2
      exact ⟨rfl, rfl⟩
    · rw [if_neg c2]
      by_cases c3 : 0 < p ∧ p ≤ 37
      · rw [if_pos c3]
        obtain ⟨c3a, c3b⟩ := c3
        by_cases c4 : 22 < p
        · rw [if_pos c4]
          obtain ⟨n, rfl⟩ : ∃ n : Nat, p = n + 22 := ⟨(p - 22).toNat, by omega⟩
          rw [show ((n : Int) + 22 - 22).toNat = n by omega]
          have hn23 : (n : Int) < 23 := by omega
          have k1 := unhide HK n (by omega)
          have k2 := unhide HK 22 (by omega)
          have m1 := mulR_run false _ _ h0 (p10_ok n).1 (p10_ok n).2
          simp only [wd_false] at m1
          have h1 := (mulR_some false _ _ h0 (p10_ok n).1 (p10_ok n).2).2
          have m2 := mulR_run false _ _ h1 (p10_ok 22).1 (p10_ok 22).2
          simp only [wd_false] at m2
          clear h0 h1
          generalize hf1 : mulR false (floatOfInt .f64 d) (p10 n) = f1 at *
          clear hf1
          generalize p10 n = P at *
          generalize p10 22 = P2 at *
          cases g1 : (FloatKind.f64.format.order f1 4831355200913801216 == some .gt)
          · cases g2 : (FloatKind.f64.format.order f1 14054727237768577024 == some .lt)
            · rw [show beyond f1 = false by unfold beyond; rw [g1, g2]; rfl, if_neg (by decide)]
              go_enter Tryd.func57, Tryd.ntmps57
              go_wp2
              go_ret2
              exact ⟨rfl, rfl⟩
            · rw [show beyond f1 = true by unfold beyond; rw [g1, g2]; rfl, if_pos rfl]
              go_enter Tryd.func57, Tryd.ntmps57
              go_wp2
              go_ret2
              exact ⟨rfl, rfl⟩
          · rw [show beyond f1 = true by unfold beyond; rw [g1]; rfl, if_pos rfl]
            go_enter Tryd.func57, Tryd.ntmps57
            go_wp2
            go_ret2
            exact ⟨rfl, rfl⟩
        · rw [if_neg c4]
          obtain ⟨n, rfl⟩ : ∃ n : Nat, p = n := ⟨p.toNat, by omega⟩
          rw [show ((n : Int)).toNat = n by omega]
          have hn23 : (n : Int) < 23 := by omega
          have k1 := unhide HK n (by omega)
          have m1 := mulR_run false _ _ h0 (p10_ok n).1 (p10_ok n).2
          simp only [wd_false] at m1
          clear h0
          generalize p10 n = P at *
          cases g1 : (FloatKind.f64.format.order (floatOfInt .f64 d) 4831355200913801216 == some .gt)
          · cases g2 : (FloatKind.f64.format.order (floatOfInt .f64 d) 14054727237768577024 == some .lt)
            · rw [show beyond (floatOfInt .f64 d) = false by unfold beyond; rw [g1, g2]; rfl, if_neg (by decide)]
              go_enter Tryd.func57, Tryd.ntmps57
              go_wp2
              go_ret2
              exact ⟨rfl, rfl⟩
            · rw [show beyond (floatOfInt .f64 d) = true by unfold beyond; rw [g1, g2]; rfl, if_pos rfl]
              go_enter Tryd.func57, Tryd.ntmps57
              go_wp2
              go_ret2
              exact ⟨rfl, rfl⟩
          · rw [show beyond (floatOfInt .f64 d) = true by unfold beyond; rw [g1]; rfl, if_pos rfl]
            go_enter Tryd.func57, Tryd.ntmps57
            go_wp2
            go_ret2
            exact ⟨rfl, rfl⟩
      · rw [if_neg c3]
        by_cases c5 : p < 0 ∧ -22 ≤ p
        · rw [if_pos c5]
          obtain ⟨c5a, c5b⟩ := c5
          obtain ⟨n, rfl⟩ : ∃ n : Nat, p = -(n : Int) := ⟨(-p).toNat, by omega⟩
          rw [show (-(-(n : Int))).toNat = n by omega]
          have hn23 : (n : Int) < 23 := by omega
          have k1 := unhide HK n (by omega)
          have m1 := divR_run false _ _ h0 (p10_ok n).1 (p10_ok n).2
          simp only [wd_false] at m1
          have c3' : ¬ (0 < -(n : Int)) := by omega
          clear h0 c3
          generalize p10 n = P at *
          go_enter Tryd.func57, Tryd.ntmps57
          go_wp2
          go_ret2
          exact ⟨rfl, rfl⟩
        · rw [if_neg c5]
          clear h0
          by_cases c6 : 0 < p
          · have c7 : ¬ (p ≤ 37) := by omega
            have c8 : ¬ (p < 0) := by omega
            clear c3 c5
            go_enter Tryd.func57, Tryd.ntmps57
            go_wp2
            go_ret2
            exact ⟨rfl, rfl⟩
          · have c7 : p < 0 := by omega
            have c8 : ¬ (-22 ≤ p) := by omega
            clear c3 c5
            go_enter Tryd.func57, Tryd.ntmps57
            go_wp2
            go_ret2
            exact ⟨rfl, rfl⟩
  · rw [if_pos c1]
    go_enter Tryd.func57, Tryd.ntmps57
    go_wp2
    go_ret2
    exact ⟨rfl, rfl⟩
set_option maxHeartbeats 1000000 in
set_option maxRecDepth 100000 in
theorem exact_neg (d p : Int) (hd : 0 ≤ d) (hp : -345 ≤ p ∧ p ≤ 310) (w : World) (i1 : w.cell? ⟨4, 0, none⟩ = some (.int .u64 52)) (hT : F10 w) :
    Calls Tryd.prog 57 #[.int .u64 d, .int .i64 p, .bool true] w fun e w' => e = .returned (.tuple #[.float .f64 (exF true d p).1, .bool (exF true d p).2]) ∧ w' = w := by
  obtain ⟨T, oT, cap, ct, hT2, ck⟩ := hT.tab
  clear hT hT2
  have h0 := ofInt_le d hd
  have HK := hide ck
  clear ck
  unfold exF
  simp only [← neg_wd _ h0]
  by_cases c1 : d / 4503599627370496 = 0
  · rw [if_neg (by omega)]
    by_cases c2 : p = 0
    · rw [if_pos c2]
      subst c2
      go_enter Tryd.func57, Tryd.ntmps57
      go_wp2
      go_ret2
      exact ⟨rfl, rfl⟩
    · rw [if_neg c2]
      by_cases c3 : 0 < p ∧ p ≤ 37
      · rw [if_pos c3]
        obtain ⟨c3a, c3b⟩ := c3
        by_cases c4 : 22 < p
        · rw [if_pos c4]
          obtain ⟨n, rfl⟩ : ∃ n : Nat, p = n + 22 := ⟨(p - 22).toNat, by omega⟩
          rw [show ((n : Int) + 22 - 22).toNat = n by omega]
          have hn23 : (n : Int) < 23 := by omega
          have k1 := unhide HK n (by omega)
          have k2 := unhide HK 22 (by omega)
          have m1 := mulR_run true _ _ h0 (p10_ok n).1 (p10_ok n).2
          simp only [← neg_wd _ h0] at m1
          have h1 := (mulR_some true _ _ h0 (p10_ok n).1 (p10_ok n).2).2
          have m2 := mulR_run true _ _ h1 (p10_ok 22).1 (p10_ok 22).2
          clear h0 h1
          generalize hf1 : wd true (mulR true (floatOfInt .f64 d) (p10 n)) = f1 at *
          clear hf1
          generalize p10 n = P at *
          generalize p10 22 = P2 at *
          cases g1 : (FloatKind.f64.format.order f1 4831355200913801216 == some .gt)
          · cases g2 : (FloatKind.f64.format.order f1 14054727237768577024 == some .lt)
            · rw [show beyond f1 = false by unfold beyond; rw [g1, g2]; rfl, if_neg (by decide)]
              go_enter Tryd.func57, Tryd.ntmps57
              go_wp2
              go_ret2
              exact ⟨rfl, rfl⟩
            · rw [show beyond f1 = true by unfold beyond; rw [g1, g2]; rfl, if_pos rfl]
              go_enter Tryd.func57, Tryd.ntmps57
              go_wp2
              go_ret2
              exact ⟨rfl, rfl⟩
          · rw [show beyond f1 = true by unfold beyond; rw [g1]; rfl, if_pos rfl]
            go_enter Tryd.func57, Tryd.ntmps57
            go_wp2
            go_ret2
            exact ⟨rfl, rfl⟩
        · rw [if_neg c4]
          obtain ⟨n, rfl⟩ : ∃ n : Nat, p = n := ⟨p.toNat, by omega⟩
          rw [show ((n : Int)).toNat = n by omega]
          have hn23 : (n : Int) < 23 := by omega
          have k1 := unhide HK n (by omega)
          have m1 := mulR_run true _ _ h0 (p10_ok n).1 (p10_ok n).2
          simp only [← neg_wd _ h0] at m1
          clear h0
          generalize p10 n = P at *
          cases g1 : (FloatKind.f64.format.order (Op.negFloat .f64 (floatOfInt .f64 d)) 4831355200913801216 == some .gt)
          · cases g2 : (FloatKind.f64.format.order (Op.negFloat .f64 (floatOfInt .f64 d)) 14054727237768577024 == some .lt)
            · rw [show beyond (Op.negFloat .f64 (floatOfInt .f64 d)) = false by unfold beyond; rw [g1, g2]; rfl, if_neg (by decide)]
              go_enter Tryd.func57, Tryd.ntmps57
              go_wp2
              go_ret2
              exact ⟨rfl, rfl⟩
            · rw [show beyond (Op.negFloat .f64 (floatOfInt .f64 d)) = true by unfold beyond; rw [g1, g2]; rfl, if_pos rfl]
              go_enter Tryd.func57, Tryd.ntmps57
              go_wp2
              go_ret2
              exact ⟨rfl, rfl⟩
          · rw [show beyond (Op.negFloat .f64 (floatOfInt .f64 d)) = true by unfold beyond; rw [g1]; rfl, if_pos rfl]
            go_enter Tryd.func57, Tryd.ntmps57
            go_wp2
            go_ret2
            exact ⟨rfl, rfl⟩
      · rw [if_neg c3]
        by_cases c5 : p < 0 ∧ -22 ≤ p
        · rw [if_pos c5]
          obtain ⟨c5a, c5b⟩ := c5
          obtain ⟨n, rfl⟩ : ∃ n : Nat, p = -(n : Int) := ⟨(-p).toNat, by omega⟩
          rw [show (-(-(n : Int))).toNat = n by omega]
          have hn23 : (n : Int) < 23 := by omega
          have k1 := unhide HK n (by omega)
          have m1 := divR_run true _ _ h0 (p10_ok n).1 (p10_ok n).2
          simp only [← neg_wd _ h0] at m1
          have c3' : ¬ (0 < -(n : Int)) := by omega
          clear h0 c3
          generalize p10 n = P at *
          go_enter Tryd.func57, Tryd.ntmps57
          go_wp2
          go_ret2
          exact ⟨rfl, rfl⟩
        · rw [if_neg c5]
          clear h0
          by_cases c6 : 0 < p
          · have c7 : ¬ (p ≤ 37) := by omega
            have c8 : ¬ (p < 0) := by omega
            clear c3 c5
            go_enter Tryd.func57, Tryd.ntmps57
            go_wp2
            go_ret2
            exact ⟨rfl, rfl⟩
          · have c7 : p < 0 := by omega
            have c8 : ¬ (-22 ≤ p) := by omega
            clear c3 c5
            go_enter Tryd.func57, Tryd.ntmps57
            go_wp2
            go_ret2
            exact ⟨rfl, rfl⟩
  · rw [if_pos c1]
    go_enter Tryd.func57, Tryd.ntmps57
    go_wp2
    go_ret2
    exact ⟨rfl, rfl⟩
end Go.Proofs.Qxb6606071aDoor.Fl
