import Derived.Test.Qxb6606071aDoorD2
import Derived.Deep.Cut
import Derived.Deep.CutRange
import Derived.Deep.CutBlock
import Derived.Deep.DeepCutAuto
/- leftShift's two loops. -/
namespace Go.Proofs.Qxb6606071aDoor.Fl
open Go.RowKit

def emitD (D : Nat → Int) (w : Nat) (m : Int) : Nat → Int := if w < 800 then put D w (m + 48) else D
def emitT (tr : Bool) (w : Nat) (m : Int) : Bool := if w < 800 then tr else if m = 0 then tr else true

/-- the first loop: digits left, write index, carry. -/
def ls1 (k : Nat) : Nat → Nat → Int → (Nat → Int) → Bool → Nat × Int × (Nat → Int) × Bool
  | 0, w, n, D, tr => (w, n, D, tr)
  | r + 1, w, n, D, tr => ls1 k r (w - 1) ((n + (D r - 48) * 2 ^ k) / 10) (emitD D (w - 1) ((n + (D r - 48) * 2 ^ k) % 10)) (emitT tr (w - 1) ((n + (D r - 48) * 2 ^ k) % 10))

/-- the second loop (fuel first). -/
def ls2 : Nat → Nat → Int → (Nat → Int) → Bool → Nat × (Nat → Int) × Bool
  | 0, w, _, D, tr => (w, D, tr)
  | f + 1, w, n, D, tr => if n = 0 then (w, D, tr) else ls2 f (w - 1) (n / 10) (emitD D (w - 1) (n % 10)) (emitT tr (w - 1) (n % 10))

/-- leftShift's answer: bytes, nd, dp, trunc; d: the new digits. -/
def lsRes (k d : Nat) (D : Nat → Int) (nd : Nat) (dp : Int) (tr : Bool) : (Nat → Int) × Nat × Int × Bool :=
  ((ls2 d d (ls1 k nd (nd + d) 0 D tr).2.1 (ls1 k nd (nd + d) 0 D tr).2.2.1 (ls1 k nd (nd + d) 0 D tr).2.2.2).2.1,
   trimN (ls2 d d (ls1 k nd (nd + d) 0 D tr).2.1 (ls1 k nd (nd + d) 0 D tr).2.2.1 (ls1 k nd (nd + d) 0 D tr).2.2.2).2.1 (min (nd + d) 800),
   trimDp (ls2 d d (ls1 k nd (nd + d) 0 D tr).2.1 (ls1 k nd (nd + d) 0 D tr).2.2.1 (ls1 k nd (nd + d) 0 D tr).2.2.2).2.1 (min (nd + d) 800) (dp + d),
   (ls2 d d (ls1 k nd (nd + d) 0 D tr).2.1 (ls1 k nd (nd + d) 0 D tr).2.2.1 (ls1 k nd (nd + d) 0 D tr).2.2.2).2.2)

/-- what the leftcheats table gives. -/
structure CheatAt (k : Nat) (dl : Nat) (cut : ByteArray) (w : World) : Prop where
  at_ : ∃ T oT cap, w.cell? ⟨13, 0, none⟩ = some (.slice (some ⟨T, oT, none⟩) 61 cap) ∧ w.cell? ⟨T, oT + k * 2, none⟩ = some (.int .i64 dl) ∧ w.cell? ⟨T, oT + k * 2 + 1, none⟩ = some (.string cut)

theorem two_pow_pos (k : Nat) : (0 : Int) < 2 ^ k := by
  have := Nat.two_pow_pos k
  exact_mod_cast this
theorem wrap_u64 (z : Int) (h0 : 0 ≤ z) (h1 : z < 18446744073709551616) : IntKind.u64.wrap z = z := by
  unfold IntKind.wrap
  simp [IntKind.signed, IntKind.bits]
  omega

/-- one digit of the first loop, as the machine reckons it. -/
theorem digit_step (n : Int) (x k : Nat) (hk : k ≤ 60) (hn0 : 0 ≤ n) (hn : n < 2 ^ k) (hx : x ≤ 9) : ∃ X m q t r : Int, Hid (q = (n + x * 2 ^ k) / 10 ∧ r = (n + x * 2 ^ k) % 10) ∧
    IntKind.u64.wrap ((x : Int) * 2 ^ k) = X ∧ IntKind.u64.wrap (n + X) = m ∧ IntKind.u64.wrap (m.tdiv 10) = q ∧ IntKind.u64.wrap (10 * q) = t ∧
    IntKind.u64.wrap (m - t) = r ∧ 0 ≤ q ∧ q < 2 ^ k ∧ 0 ≤ r ∧ r ≤ 9 := by
  have hp : (2 : Int) ^ k ≤ 2 ^ 60 := by
    have := Nat.pow_le_pow_right (n := 2) (by decide) hk
    exact_mod_cast this
  have hp1 : (1 : Int) ≤ 2 ^ k := by
    have := Nat.one_le_two_pow (n := k)
    exact_mod_cast this
  have hp' : (2 : Int) ^ 60 = 1152921504606846976 := by decide
  generalize hP : (2 : Int) ^ k = P at *
  have hX0 : 0 ≤ (x : Int) * P := Int.mul_nonneg (by omega) (by omega)
  have hX : (x : Int) * P ≤ 9 * P := Int.mul_le_mul_of_nonneg_right (by omega) (by omega)
  generalize hXX : (x : Int) * P = X at *
  have ht : (n + X).tdiv 10 = (n + X) / 10 := Int.tdiv_eq_ediv_of_nonneg (by omega)
  refine ⟨X, n + X, (n + X) / 10, 10 * ((n + X) / 10), (n + X) % 10, ⟨rfl, rfl⟩, wrap_u64 _ (by omega) (by omega), wrap_u64 _ (by omega) (by omega), ?_, wrap_u64 _ (by omega) (by omega), ?_, by omega, by omega, by omega, by omega⟩
  · rw [ht]; exact wrap_u64 _ (by omega) (by omega)
  · rw [show n + X - 10 * ((n + X) / 10) = (n + X) % 10 by omega]; exact wrap_u64 _ (by omega) (by omega)
/-- one digit of the carry. -/
theorem digit_carry (n : Int) (hn0 : 0 ≤ n) (hn : n < 1152921504606846976) : ∃ q t r : Int, Hid (q = n / 10 ∧ r = n % 10) ∧
    IntKind.u64.wrap (n.tdiv 10) = q ∧ IntKind.u64.wrap (10 * q) = t ∧ IntKind.u64.wrap (n - t) = r ∧ 0 ≤ q ∧ q < 1152921504606846976 ∧ 0 ≤ r ∧ r ≤ 9 := by
  have ht : n.tdiv 10 = n / 10 := Int.tdiv_eq_ediv_of_nonneg hn0
  refine ⟨n / 10, 10 * (n / 10), n % 10, ⟨rfl, rfl⟩, ?_, wrap_u64 _ (by omega) (by omega), ?_, by omega, by omega, by omega, by omega⟩
  · rw [ht]; exact wrap_u64 _ (by omega) (by omega)
  · rw [show n - 10 * (n / 10) = n % 10 by omega]; exact wrap_u64 _ (by omega) (by omega)

theorem carry_down (n : Int) (g : Nat) (h : n < 10 ^ (g + 1)) : n / 10 < 10 ^ g := by
  have e : (10 : Int) ^ (g + 1) = 10 ^ g * 10 := Int.pow_succ 10 g
  rw [e] at h
  omega

set_option maxHeartbeats 4000000 in
set_option maxRecDepth 100000 in
theorem leftShift_walk (a : Nat) (D : Nat → Int) (nd : Nat) (dp : Int) (neg tr : Bool) (k dl : Nat) (cut : ByteArray) (w : World) (h : DecAt a D nd dp neg tr w) (hC : CheatAt k dl cut w) (hnd : nd ≤ 800) (hk : k ≤ 60) (hd : ∀ i, i < nd → 48 ≤ D i ∧ D i ≤ 57) (hdl : dl ≤ 20) (hdp : -100000 ≤ dp ∧ dp ≤ 100000)
    (hd0 : prefLess D nd cut cut.size 0 = true → 1 ≤ dl) (d : Nat) (hdd : (if prefLess D nd cut cut.size 0 = true then dl - 1 else dl) = d) (hcar : (ls1 k nd (nd + d) 0 D tr).2.1 < 10 ^ d) :
    Calls Tryd.prog 84 #[.pointer (some ⟨a, 0, none⟩), .int .u64 k] w fun e w' => e = .returned (.tuple #[]) ∧ DecAt a (lsRes k d D nd dp tr).1 (lsRes k d D nd dp tr).2.1 (lsRes k d D nd dp tr).2.2.1 neg (lsRes k d D nd dp tr).2.2.2 w' ∧ Below a w w' := by
  have HCar := hide hcar
  clear hcar
  obtain ⟨T, oT, cap, c0, c1, c2⟩ := hC
  have hn := h.nd
  have HP := hide (fun W hW => prefLess_any a D nd cut W hW hnd)
  have hk61 : (k : Int) < 61 := by omega
  have hnd8 : (nd : Int) ≤ 800 := by omega
  have H0 := hide h
  clear h
  have hd20 : d ≤ 20 := by rw [← hdd]; split <;> omega
  go_enter Tryd.func84, Tryd.ntmps84
  go_wp2
  go_quiet (exact Calls.quiet_of (unhide HP _ (fun i hi => ((unhide H0).drewN _).dig i hi)))
  go_upto_if 30 with fail
  go_cut [4] (fun s4 wx => s4 = .int .i64 d ∧ wx = w.drewN nq)
  case first =>
    cases hpl : prefLess D nd cut cut.size 0
    · rw [hpl] at hdd
      have e : dl = d := by simpa using hdd
      subst e
      go_wp2_with fail
      go_meet
      exact ⟨rfl, rfl⟩
    · have h1 := hd0 hpl
      rw [hpl] at hdd
      have e : (dl : Int) - 1 = (d : Int) := by simp at hdd; omega
      go_wp2_with fail
      go_meet
      refine ⟨?_, rfl⟩
      first | rfl | (rw [← e]) | simp
  case rest =>
    obtain ⟨rfl, rfl⟩ := hcut
    go_wp2
    go_loopg [5, 6, 7] nd (fun gf s5 s6 s7 wx => ∃ (wi : Nat) (n : Int) (D1 : Nat → Int) (t1 : Bool), s5 = .int .i64 ((gf : Int) - 1) ∧ s6 = .int .i64 wi ∧ s7 = .int .u64 n ∧ wi = gf + d ∧ 0 ≤ n ∧ gf ≤ nd ∧
      Hid (n < 2 ^ k ∧ (∀ i, i < gf → D1 i = D i) ∧ ls1 k gf wi n D1 t1 = ls1 k nd (nd + d) 0 D tr ∧ DecAt a D1 nd dp neg t1 wx ∧ Below a w wx))
    case atStart => exact ⟨nd + d, 0, D, tr, rfl, by simp, rfl, rfl, Int.le_refl _, Nat.le_refl _, two_pow_pos k, fun _ _ => rfl, rfl, (unhide H0).drewN _, belowDrewQ (Below.refl _ _) _⟩
    case round =>
      obtain ⟨wi, n, D1, t1, rfl, rfl, rfl, hwi, hn0, hgn, HH⟩ := hrel
      cases gk with
      | zero =>
        obtain rfl : wi = d := by omega
        have hres : ls1 k nd (nd + wi) 0 D tr = (wi, n, D1, t1) := (unhide HH).2.2.1.symm
        have HR := hide hres
        have hnc : n < 10 ^ wi := by
          have := unhide HCar
          rw [hres] at this
          exact this
        have hn60 : n < 1152921504606846976 := by
          have h1 := (unhide HH).1
          have hp : (2 : Int) ^ k ≤ 2 ^ 60 := by
            have := Nat.pow_le_pow_right (n := 2) (by decide) hk
            exact_mod_cast this
          have hp' : (2 : Int) ^ 60 = 1152921504606846976 := by decide
          omega
        have HH2 := hide (And.intro hnc (And.intro (unhide HH).2.2.2.1 (unhide HH).2.2.2.2))
        clear hres hnc HH HP hwi
        go_wp2
        go_loopg [6, 7] wi (fun gf s6 s7 wx => ∃ (m : Int) (D3 : Nat → Int) (t3 : Bool), s6 = .int .i64 gf ∧ s7 = .int .u64 m ∧ 0 ≤ m ∧ m < 1152921504606846976 ∧ gf ≤ wi ∧
          Hid (m < 10 ^ gf ∧ ls2 gf gf m D3 t3 = ls2 wi wi n D1 t1 ∧ DecAt a D3 nd dp neg t3 wx ∧ Below a w wx))
        case atStart => exact ⟨n, D1, t1, rfl, rfl, hn0, hn60, Nat.le_refl _, (unhide HH2).1, rfl, (unhide HH2).2.1, (unhide HH2).2.2⟩
        case round =>
          obtain ⟨m, D3, t3, rfl, rfl, hm0, hm60, hgw, HK⟩ := hrel
          by_cases hmz : m = 0
          · subst hmz
            have hres2 : ls2 wi wi n D1 t1 = (gk, D3, t3) := by
              rw [← (unhide HK).2.1]
              cases gk with
              | zero => rfl
              | succ g => unfold ls2; rw [if_pos rfl]
            have HR2 := hide hres2
            clear hres2
            have cn := (unhide HK).2.2.1.nd
            have fn := (unhide HK).2.2.1.fr 800 (by omega)
            have cp := (unhide HK).2.2.1.dp
            have fp := (unhide HK).2.2.1.fr 801 (by omega)
            have HT := hide (fun N z w5 (h5 : DecAt a D3 N z neg t3 w5) (hN : N ≤ 800) => trim_any a D3 N z neg t3 w5 h5 hN)
            by_cases hN : nd + wi < 800
            · have hNz : ¬ ((800 : Int) ≤ (nd : Int) + (wi : Int)) := by omega
              have H5 : Hid (DecAt a D3 (nd + wi) (dp + wi) neg t3 ((wr.setCell ⟨a, 800, none⟩ (.int .i64 ((nd : Int) + (wi : Int)))).setCell ⟨a, 801, none⟩ (.int .i64 (dp + (wi : Int)))) ∧ Below a w ((wr.setCell ⟨a, 800, none⟩ (.int .i64 ((nd : Int) + (wi : Int)))).setCell ⟨a, 801, none⟩ (.int .i64 (dp + (wi : Int))))) :=
                ⟨((unhide HK).2.2.1.setNd (nd + wi)).setDp (dp + wi), ((unhide HK).2.2.2.setCell (p := ⟨a, 800, none⟩) (Nat.le_refl _) _).setCell (p := ⟨a, 801, none⟩) (Nat.le_refl _) _⟩
              go_wp2_with (go_at_call 92; refine (unhide HT _ _ _ (unhide H5).1 (by omega)).mono ?_; rintro e w6 ⟨rfl, h6, hb6⟩)
              go_end0
              refine ⟨rfl, ?_, (unhide H5).2.trans hb6⟩
              unfold lsRes
              rw [unhide HR]
              simp only
              rw [unhide HR2, Nat.min_eq_left (by omega)]
              exact h6
            · have hNz : (800 : Int) ≤ (nd : Int) + (wi : Int) := by omega
              have H5 : Hid (DecAt a D3 800 (dp + wi) neg t3 (((wr.setCell ⟨a, 800, none⟩ (.int .i64 ((nd : Int) + (wi : Int)))).setCell ⟨a, 800, none⟩ (.int .i64 800)).setCell ⟨a, 801, none⟩ (.int .i64 (dp + (wi : Int)))) ∧ Below a w (((wr.setCell ⟨a, 800, none⟩ (.int .i64 ((nd : Int) + (wi : Int)))).setCell ⟨a, 800, none⟩ (.int .i64 800)).setCell ⟨a, 801, none⟩ (.int .i64 (dp + (wi : Int))))) :=
                ⟨(((unhide HK).2.2.1.setNd (nd + wi)).setNd 800).setDp (dp + wi), (((unhide HK).2.2.2.setCell (p := ⟨a, 800, none⟩) (Nat.le_refl _) _).setCell (p := ⟨a, 800, none⟩) (Nat.le_refl _) _).setCell (p := ⟨a, 801, none⟩) (Nat.le_refl _) _⟩
              go_wp2_with (go_at_call 92; refine (unhide HT _ _ _ (unhide H5).1 (by omega)).mono ?_; rintro e w6 ⟨rfl, h6, hb6⟩)
              go_end0
              refine ⟨rfl, ?_, (unhide H5).2.trans hb6⟩
              unfold lsRes
              rw [unhide HR]
              simp only
              rw [unhide HR2, Nat.min_eq_right (by omega)]
              exact h6
          · cases gk with
            | zero =>
              have := (unhide HK).1
              simp at this
              omega
            | succ g =>
              obtain ⟨qq, t, rr, HX, e3, e4, e5, hq0, hq60, hr0, hr9⟩ := digit_carry m hm0 hm60
              have HQ := hide (show qq < 10 ^ g by rw [(unhide HX).1]; exact carry_down m g (unhide HK).1)
              have HL := hide (show ls2 g g qq (emitD D3 g rr) (emitT t3 g rr) = ls2 wi wi n D1 t1 by
                rw [← (unhide HK).2.1]
                conv => rhs; unfold ls2
                rw [if_neg hmz, ← (unhide HX).1, ← (unhide HX).2]
                rfl)
              have hmp : (0 : Int) < m := by omega
              by_cases h8 : g < 800
              · have h8z : (g : Int) < 800 := by omega
                have cw := (unhide HK).2.2.1.dig g h8
                have fw := (unhide HK).2.2.1.fr g (by omega)
                go_wp2
                have eD : emitD D3 g rr = put D3 g (rr + 48) := if_pos h8
                have eT : emitT t3 g rr = t3 := if_pos h8
                rw [eD, eT] at HL
                go_roundg g
                case measure => omega
                case rel => exact ⟨qq, put D3 g (rr + 48), t3, rfl, rfl, hq0, hq60, by omega, unhide HQ, unhide HL, (unhide HK).2.2.1.setDig g h8 _, (unhide HK).2.2.2.setCell (p := ⟨a, g, none⟩) (Nat.le_refl _) _⟩
              · omega
      | succ g =>
        have hx := hd g (by omega)
        have cx := (unhide HH).2.2.2.1.dig g (by omega)
        rw [(unhide HH).2.1 g (by omega)] at cx
        obtain ⟨x, hxe⟩ : ∃ x : Nat, D g = (x : Int) + 48 := ⟨(D g - 48).toNat, by omega⟩
        have hx9 : x ≤ 9 := by omega
        rw [hxe] at cx
        have hg0 : (0 : Int) ≤ (g : Int) := by omega
        have hg8 : (g : Int) < 800 := by omega
        obtain ⟨w1, hw1⟩ : ∃ w1, w1 = g + d := ⟨_, rfl⟩
        obtain rfl : wi = w1 + 1 := by omega
        have hw9 : w1 ≤ 900 := by omega
        obtain ⟨X, m, qq, t, rr, HX, e1, e2, e3, e4, e5, hq0, hq2, hr0, hr9⟩ := digit_step n x k hk hn0 (unhide HH).1 hx9
        have HQ := hide hq2
        have HL := hide (show ls1 k g w1 qq (emitD D1 w1 rr) (emitT t1 w1 rr) = ls1 k nd (nd + d) 0 D tr by
          rw [← (unhide HH).2.2.1]
          conv => rhs; unfold ls1
          rw [(unhide HH).2.1 g (by omega), hxe, show (x : Int) + 48 - 48 = x by omega, ← (unhide HX).1, ← (unhide HX).2]
          rfl)
        have HW := hide hw1
        clear hw1 hwi hxe hx hq2
        by_cases h8 : w1 < 800
        · have h8z : (w1 : Int) < 800 := by omega
          have cw := (unhide HH).2.2.2.1.dig w1 h8
          have fw := (unhide HH).2.2.2.1.fr w1 (by omega)
          go_wp2
          have eD : emitD D1 w1 rr = put D1 w1 (rr + 48) := if_pos h8
          have eT : emitT t1 w1 rr = t1 := if_pos h8
          rw [eD, eT] at HL
          go_roundg g
          case measure => omega
          case rel => exact ⟨w1, qq, put D1 w1 (rr + 48), t1, rfl, rfl, rfl, unhide HW, hq0, by omega, unhide HQ, (fun i hi => by unfold put; rw [if_neg (by have := unhide HW; omega)]; exact (unhide HH).2.1 i (by omega)), unhide HL, (unhide HH).2.2.2.1.setDig w1 h8 _, (unhide HH).2.2.2.2.setCell (p := ⟨a, w1, none⟩) (Nat.le_refl _) _⟩
        · have h8z : ¬ ((w1 : Int) < 800) := by omega
          have ct := (unhide HH).2.2.2.1.tr
          have ft := (unhide HH).2.2.2.1.fr 803 (by omega)
          by_cases hr : rr = 0
          · subst hr
            go_wp2
            have eD : emitD D1 w1 0 = D1 := if_neg h8
            have eT : emitT t1 w1 0 = t1 := by unfold emitT; rw [if_neg h8, if_pos rfl]
            rw [eD, eT] at HL
            go_roundg g
            case measure => omega
            case rel => exact ⟨w1, qq, D1, t1, rfl, rfl, rfl, unhide HW, hq0, by omega, unhide HQ, (fun i hi => (unhide HH).2.1 i (by omega)), unhide HL, (unhide HH).2.2.2.1, (unhide HH).2.2.2.2⟩
          · go_wp2
            have eD : emitD D1 w1 rr = D1 := if_neg h8
            have eT : emitT t1 w1 rr = true := by unfold emitT; rw [if_neg h8, if_neg hr]
            rw [eD, eT] at HL
            go_roundg g
            case measure => omega
            case rel => exact ⟨w1, qq, D1, true, rfl, rfl, rfl, unhide HW, hq0, by omega, unhide HQ, (fun i hi => (unhide HH).2.1 i (by omega)), unhide HL, (unhide HH).2.2.2.1.setTr true, (unhide HH).2.2.2.2.setCell (p := ⟨a, 803, none⟩) (Nat.le_refl _) _⟩
end Go.Proofs.Qxb6606071aDoor.Fl
