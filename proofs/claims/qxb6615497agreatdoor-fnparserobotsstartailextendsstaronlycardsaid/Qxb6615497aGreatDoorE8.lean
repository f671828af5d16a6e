import Derived.Test.Qxb6615497aGreatDoorE7
/- decimal.set: the walk. -/
namespace Go.Proofs.Qxb6615497aGreatDoor
open Go Go.RowKit

set_option maxHeartbeats 4000000 in
set_option maxRecDepth 100000 in
theorem set_any (a : Nat) (s : ByteArray) (hs : NumText s) (w : World) (h : In a false st0 w) :
    Calls Tryz.prog 139 #[.pointer (some ⟨a, 0, none⟩), .string s] w fun e w' => e = .returned (.bool true) ∧ In a false (stOf s) w' ∧ Below a w w' := by
  have h0 := hs.pos
  obtain ⟨x, hx⟩ : ∃ x : UInt8, s[0]'h0 = x := ⟨_, rfl⟩
  have hd := hs.all 0 h0
  rw [hx] at hd
  have HS := hide hs
  have hlen := hs.len
  have hz : ¬ ((s.size : Int) ≤ 0) := by omega
  have hp : (0 : Int) < (s.size : Int) := by omega
  have n1 : ¬ ((x.toNat : Int) = 43) := by unfold dotDig at hd; omega
  have n2 : ¬ ((x.toNat : Int) = 45) := by unfold dotDig at hd; omega
  have hne : ¬ (s = ByteArray.empty) := by rintro rfl; exact absurd h0 (by decide)
  have cg := h.neg
  have fg := h.fr 802 (by omega)
  have ct := h.tr
  have ft := h.fr 803 (by omega)
  have H0 : Hid (In a false st0 ((w.setCell ⟨a, 802, none⟩ (.bool false)).setCell ⟨a, 803, none⟩ (.bool false)) ∧ Below a w ((w.setCell ⟨a, 802, none⟩ (.bool false)).setCell ⟨a, 803, none⟩ (.bool false))) :=
    ⟨(DecAt.setNeg h false).setTr false, ((Below.refl a w).setCell (p := ⟨a, 802, none⟩) (Nat.le_refl _) _).setCell (p := ⟨a, 803, none⟩) (Nat.le_refl _) _⟩
  clear hs hd h
  go_enter Tryz.func139, Tryz.ntmps139
  go_wp2
  go_loopg [5, 6, 7] s.size (fun gf s5 s6 s7 wx => ∃ (i : Nat) (S : Dst) (dot dig : Bool), i + gf = s.size ∧ s5 = .int .i64 i ∧ s6 = .bool dot ∧ s7 = .bool dig ∧
    Hid (STok i S ∧ stRun s gf i (S, dot) = stAll s ∧ (dot = true → ∃ j, j < i ∧ ∃ h : j < s.size, (s[j]'h).toNat = 46) ∧ ((∃ j, j < i ∧ ∃ h : j < s.size, (s[j]'h).toNat ≠ 46) → dig = true) ∧ In a false S wx ∧ Below a w wx))
  case atStart => exact ⟨0, st0, false, false, by omega, rfl, rfl, rfl, STok.start, rfl, (fun h => by cases h), (fun ⟨j, hj, _⟩ => absurd hj (Nat.not_lt_zero _)), (unhide H0).1, (unhide H0).2⟩
  case round =>
    obtain ⟨i, S, dot, dig, hig, rfl, rfl, rfl, HH⟩ := hrel
    clear cg fg ct ft
    have f1 := (unhide HH).1.nd
    have f2 := (unhide HH).1.dp
    have cn := (unhide HH).2.2.2.2.1.nd
    have fn := (unhide HH).2.2.2.2.1.fr 800 (by omega)
    have cp := (unhide HH).2.2.2.2.1.dp
    have fp := (unhide HH).2.2.2.2.1.fr 801 (by omega)
    have ct := (unhide HH).2.2.2.2.1.tr
    have ft := (unhide HH).2.2.2.2.1.fr 803 (by omega)
    cases gk with
    | zero =>
      obtain rfl : i = s.size := by omega
      have hdig : dig = true := by
        refine (unhide HH).2.2.2.1 ?_
        obtain ⟨j, hj, hn⟩ := (unhide HS).dig
        exact ⟨j, hj, hj, hn⟩
      subst hdig
      have HE := hide (show stAll s = (S, dot) from (unhide HH).2.1.symm)
      have hiz : ¬ ((s.size : Int) < (s.size : Int)) := by omega
      cases dot with
      | true =>
        have HV := hide (show stOf s = S by unfold stOf; rw [unhide HE]; rfl)
        go_wp2
        go_ret
        rw [unhide HV]
        exact ⟨rfl, (unhide HH).2.2.2.2.1, (unhide HH).2.2.2.2.2⟩
      | false =>
        have HV := hide (show stOf s = ⟨S.D, S.nd, S.nd, S.tr⟩ by unfold stOf; rw [unhide HE]; rfl)
        go_wp2
        go_ret
        rw [unhide HV]
        exact ⟨rfl, DecAt.setDp (unhide HH).2.2.2.2.1 _, (unhide HH).2.2.2.2.2.setCell (p := ⟨a, 801, none⟩) (Nat.le_refl _) _⟩
    | succ g =>
      have hi : i < s.size := by omega
      have hiz : (i : Int) < (s.size : Int) := by omega
      obtain ⟨x, hx⟩ : ∃ x : UInt8, s[i]'hi = x := ⟨_, rfl⟩
      have hxd := (unhide HS).all i hi
      have HK := hide ((unhide HH).1.step _ hxd)
      have HE := hide (show stRun s g (i + 1) (stStep S (s[i]'hi).toNat, dot || decide ((s[i]'hi).toNat = 46)) = stAll s by
        rw [← (unhide HH).2.1]
        conv => rhs; unfold stRun
        rw [dif_pos hi])
      rw [hx] at hxd
      have HX := hide (congrArg UInt8.toNat hx)
      rw [unhide HX] at HK HE
      unfold dotDig at hxd
      have n95 : ¬ ((x.toNat : Int) = 95) := by omega
      by_cases c46 : x.toNat = 46
      · have hdot : dot = false := by
          cases hdt : dot with
          | false => rfl
          | true =>
            obtain ⟨j, hj, hjs, e⟩ := (unhide HH).2.2.1 hdt
            have := (unhide HS).one i j hi hjs (by rw [unhide HX]; exact c46) e
            omega
        subst hdot
        rw [show stStep S x.toNat = ⟨S.D, S.nd, S.nd, S.tr⟩ by unfold stStep; rw [if_pos c46]] at HK HE
        rw [show (false || decide (x.toNat = 46)) = true by rw [decide_eq_true c46]; rfl] at HE
        have HJ := hide (show ∃ j, j < i + 1 ∧ ∃ h : j < s.size, (s[j]'h).toNat = 46 from ⟨i, by omega, hi, by rw [unhide HX]; exact c46⟩)
        have HD := hide (show (∃ j, j < i + 1 ∧ ∃ h : j < s.size, (s[j]'h).toNat ≠ 46) → dig = true from fun ⟨j, hj, hjs, hn⟩ => (unhide HH).2.2.2.1 ⟨j, by
          by_cases e : j = i
          · subst e; rw [unhide HX] at hn; exact absurd c46 hn
          · omega, hjs, hn⟩)
        have z46 : (x.toNat : Int) = 46 := by omega
        clear c46 hxd n95 HX
        go_wp2
        go_roundg g
        case measure => omega
        case rel => exact ⟨i + 1, ⟨S.D, S.nd, S.nd, S.tr⟩, true, dig, by omega, by go_num, rfl, rfl, unhide HK, unhide HE, (fun _ => unhide HJ), unhide HD, DecAt.setDp (unhide HH).2.2.2.2.1 _, (unhide HH).2.2.2.2.2.setCell (p := ⟨a, 801, none⟩) (Nat.le_refl _) _⟩
      · have z46 : ¬ ((x.toNat : Int) = 46) := by omega
        have a48 : (48 : Int) ≤ (x.toNat : Int) := by omega
        have a57 : (x.toNat : Int) ≤ 57 := by omega
        rw [show (dot || decide (x.toNat = 46)) = dot by rw [decide_eq_false c46, Bool.or_false]] at HE
        have HJ := hide (show dot = true → ∃ j, j < i + 1 ∧ ∃ h : j < s.size, (s[j]'h).toNat = 46 from fun hdt => by
          obtain ⟨j, hj, hjs, e⟩ := (unhide HH).2.2.1 hdt
          exact ⟨j, by omega, hjs, e⟩)
        by_cases c48 : x.toNat = 48 ∧ S.nd = 0
        · rw [show stStep S x.toNat = ⟨S.D, S.nd, S.dp - 1, S.tr⟩ by unfold stStep; rw [if_neg c46, if_pos c48]] at HK HE
          obtain ⟨c48a, c48b⟩ := c48
          have z48 : (x.toNat : Int) = 48 := by omega
          have zn : (S.nd : Int) = 0 := by omega
          clear c46 hxd n95 HX c48a a48 a57 z46 c48b
          go_wp2
          go_roundg g
          case measure => omega
          case rel => exact ⟨i + 1, ⟨S.D, S.nd, S.dp - 1, S.tr⟩, dot, true, by omega, by go_num, rfl, rfl, unhide HK, unhide HE, unhide HJ, (fun _ => rfl), DecAt.setDp (unhide HH).2.2.2.2.1 _, (unhide HH).2.2.2.2.2.setCell (p := ⟨a, 801, none⟩) (Nat.le_refl _) _⟩
        · by_cases c8 : S.nd < 800
          · rw [show stStep S x.toNat = ⟨put S.D S.nd x.toNat, S.nd + 1, S.dp, S.tr⟩ by unfold stStep; rw [if_neg c46, if_neg c48, if_pos c8]] at HK HE
            have z8 : (S.nd : Int) < 800 := by omega
            have cw := (unhide HH).2.2.2.2.1.dig S.nd c8
            have fw := (unhide HH).2.2.2.2.1.fr S.nd (by omega)
            by_cases e48 : x.toNat = 48
            · have z48 : (x.toNat : Int) = 48 := by omega
              have zn : ¬ ((S.nd : Int) = 0) := by omega
              rw [z48] at HK HE
              have HC8 := hide c8
              clear c46 hxd n95 HX a48 a57 z46 c48 e48 c8
              go_wp2
              go_region
              go_wp2
              go_roundg g
              case measure => omega
              case rel => exact ⟨i + 1, ⟨put S.D S.nd 48, S.nd + 1, S.dp, S.tr⟩, dot, true, by omega, by go_num, rfl, rfl, unhide HK, unhide HE, unhide HJ, (fun _ => rfl), DecAt.drewN (DecAt.setNd (DecAt.setDig (unhide HH).2.2.2.2.1 S.nd (unhide HC8) _) (S.nd + 1)) 1, (((unhide HH).2.2.2.2.2.setCell (p := ⟨a, S.nd, none⟩) (Nat.le_refl _) _).setCell (p := ⟨a, 800, none⟩) (Nat.le_refl _) _).drew⟩
            · have z48 : ¬ ((x.toNat : Int) = 48) := by omega
              have HC8 := hide c8
              clear c46 hxd n95 HX c48 e48 c8
              go_wp2
              go_region
              go_wp2
              go_roundg g
              case measure => omega
              case rel => exact ⟨i + 1, ⟨put S.D S.nd x.toNat, S.nd + 1, S.dp, S.tr⟩, dot, true, by omega, by go_num, rfl, rfl, unhide HK, unhide HE, unhide HJ, (fun _ => rfl), DecAt.drewN (DecAt.setNd (DecAt.setDig (unhide HH).2.2.2.2.1 S.nd (unhide HC8) _) (S.nd + 1)) 1, (((unhide HH).2.2.2.2.2.setCell (p := ⟨a, S.nd, none⟩) (Nat.le_refl _) _).setCell (p := ⟨a, 800, none⟩) (Nat.le_refl _) _).drew⟩
          · have z8 : ¬ ((S.nd : Int) < 800) := by omega
            have zn : ¬ ((S.nd : Int) = 0) := by omega
            by_cases e48 : x.toNat = 48
            · rw [show stStep S x.toNat = ⟨S.D, S.nd, S.dp, S.tr⟩ by unfold stStep; rw [if_neg c46, if_neg c48, if_neg c8, if_pos e48]] at HK HE
              have z48 : (x.toNat : Int) = 48 := by omega
              clear c46 hxd n95 HX a48 a57 z46 c48 e48 c8
              go_wp2
              go_roundg g
              case measure => omega
              case rel => exact ⟨i + 1, ⟨S.D, S.nd, S.dp, S.tr⟩, dot, true, by omega, by go_num, rfl, rfl, unhide HK, unhide HE, unhide HJ, (fun _ => rfl), (unhide HH).2.2.2.2.1, (unhide HH).2.2.2.2.2⟩
            · rw [show stStep S x.toNat = ⟨S.D, S.nd, S.dp, true⟩ by unfold stStep; rw [if_neg c46, if_neg c48, if_neg c8, if_neg e48]] at HK HE
              have z48 : ¬ ((x.toNat : Int) = 48) := by omega
              clear c46 hxd n95 HX c48 e48 c8
              go_wp2
              go_roundg g
              case measure => omega
              case rel => exact ⟨i + 1, ⟨S.D, S.nd, S.dp, true⟩, dot, true, by omega, by go_num, rfl, rfl, unhide HK, unhide HE, unhide HJ, (fun _ => rfl), DecAt.setTr (unhide HH).2.2.2.2.1 _, (unhide HH).2.2.2.2.2.setCell (p := ⟨a, 803, none⟩) (Nat.le_refl _) _⟩
end Go.Proofs.Qxb6615497aGreatDoor
