import Derived.Test.Qxb6606071aDoorE7
import Derived.Test.Qxb6606071aDoorE6
/- decimal.set: the walk. -/
namespace Go.Proofs.Qxb6606071aDoor.Fl
open Go Go.RowKit

set_option maxHeartbeats 4000000 in
set_option maxRecDepth 100000 in
theorem set_any (A : Nat) (s : ByteArray) (a m : Nat) (neg : Bool) (hs : NumText s a m neg) (w : World) (h : In A false st0 w) :
    Calls Tryd.prog 53 #[.pointer (some ⟨A, 0, none⟩), .string s] w fun e w' => e = .returned (.bool true) ∧ (∃ X : Int, -99999 ≤ X ∧ X ≤ 99999 ∧ (m = s.size → X = 0) ∧ In A neg (stOf s a m X) w') ∧ Below A w w' := by
  have h0 := hs.pos
  have HS := hide hs
  have hlen := hs.len
  have ham := hs.am
  have hml := hs.le
  have ha1 := hs.a1
  have hz : ¬ ((s.size : Int) ≤ 0) := by omega
  have hp : (0 : Int) < (s.size : Int) := by omega
  have hne : ¬ (s = ByteArray.empty) := by rintro rfl; exact absurd h0 (by decide)
  have HL := hide lower_any
  obtain ⟨x, hx⟩ : ∃ x : UInt8, s[0]'h0 = x := ⟨_, rfl⟩
  have HG : Hid ((a = 0 ∧ neg = false ∧ ¬ ((x.toNat : Int) = 43) ∧ ¬ ((x.toNat : Int) = 45)) ∨ (a = 1 ∧ neg = false ∧ ((x.toNat : Int) = 43)) ∨ (a = 1 ∧ neg = true ∧ ((x.toNat : Int) = 45))) := by
    rcases hs.sg with ⟨h1, h2⟩ | ⟨h1, _, ⟨h2, h3⟩ | ⟨h2, h3⟩⟩
    · subst h1
      have hd := hs.all 0 h0 (Nat.le_refl _) ham
      rw [hx] at hd
      unfold dotDig at hd
      exact .inl ⟨rfl, h2, by omega, by omega⟩
    · rw [hx] at h2
      exact .inr (.inl ⟨h1, h3, by omega⟩)
    · rw [hx] at h2
      exact .inr (.inr ⟨h1, h3, by omega⟩)
  have cg := h.neg
  have fg := h.fr 802 (by omega)
  have ct := h.tr
  have ft := h.fr 803 (by omega)
  have H0 : Hid (In A false st0 ((w.setCell ⟨A, 802, none⟩ (.bool false)).setCell ⟨A, 803, none⟩ (.bool false)) ∧ Below A w ((w.setCell ⟨A, 802, none⟩ (.bool false)).setCell ⟨A, 803, none⟩ (.bool false))) :=
    ⟨(DecAt.setNeg h false).setTr false, ((Below.refl A w).setCell (p := ⟨A, 802, none⟩) (Nat.le_refl _) _).setCell (p := ⟨A, 803, none⟩) (Nat.le_refl _) _⟩
  clear hs h
  go_enter Tryd.func53, Tryd.ntmps53
  go_upto_block 0 with fail
  generalize (w.setCell ⟨A, 802, none⟩ (.bool false)).setCell ⟨A, 803, none⟩ (.bool false) = w0 at *
  have cg0 := (unhide H0).1.neg
  have fg0 := (unhide H0).1.fr 802 (by omega)
  go_cut [5] from 20 to 33 (fun v5 wx => v5 = .int .i64 (a : Int) ∧ Hid (In A neg st0 wx ∧ Below A w wx))
  case first =>
    rcases unhide HG with ⟨rfl, rfl, n1, n2⟩ | ⟨rfl, rfl, n1⟩ | ⟨rfl, rfl, n1⟩
    · go_wp2
      go_meet
      exact ⟨rfl, H0⟩
    · go_wp2
      go_meet
      exact ⟨rfl, H0⟩
    · go_wp2
      go_meet
      exact ⟨rfl, DecAt.setNeg (unhide H0).1 true, (unhide H0).2.setCell (p := ⟨A, 802, none⟩) (Nat.le_refl _) _⟩
  case rest =>
    obtain ⟨rfl, H1⟩ := hcut
    clear HG hx cg fg ct ft cg0 fg0 H0
    go_wp2
    go_loopg [5, 6, 7] (m - a) (fun gf s5 s6 s7 wx => ∃ (i : Nat) (S : Dst) (dot dig : Bool), i + gf = m ∧ s5 = .int .i64 i ∧ s6 = .bool dot ∧ s7 = .bool dig ∧
      Hid (a ≤ i ∧ STok i S ∧ stRun s gf i (S, dot) = stAll s a m ∧ (dot = true → ∃ j, a ≤ j ∧ j < i ∧ ∃ h : j < s.size, (s[j]'h).toNat = 46) ∧ ((∃ j, a ≤ j ∧ j < i ∧ ∃ h : j < s.size, (s[j]'h).toNat ≠ 46) → dig = true) ∧ In A neg S wx ∧ Below A w wx))
    case atStart => exact ⟨a, st0, false, false, by omega, rfl, rfl, rfl, Nat.le_refl _, STok.start a, rfl, (fun h => by cases h), (fun ⟨j, hj, hj2, _⟩ => absurd hj (by omega)), (unhide H1).1, (unhide H1).2⟩
    case round =>
      obtain ⟨i, S, dot, dig, hig, rfl, rfl, rfl, HH⟩ := hrel
      clear H1
      have f1 := (unhide HH).2.1.nd
      have f2 := (unhide HH).2.1.dp
      have cn := (unhide HH).2.2.2.2.2.1.nd
      have fn := (unhide HH).2.2.2.2.2.1.fr 800 (by omega)
      have cp := (unhide HH).2.2.2.2.2.1.dp
      have fp := (unhide HH).2.2.2.2.2.1.fr 801 (by omega)
      have ct := (unhide HH).2.2.2.2.2.1.tr
      have ft := (unhide HH).2.2.2.2.2.1.fr 803 (by omega)
      cases gk with
      | zero =>
        obtain rfl : i = m := by omega
        have hdig : dig = true := by
          refine (unhide HH).2.2.2.2.1 ?_
          obtain ⟨j, hj1, hj2, hj, hn⟩ := (unhide HS).dig
          exact ⟨j, hj1, hj2, hj, hn⟩
        subst hdig
        have HE := hide (show stAll s a i = (S, dot) from (unhide HH).2.2.1.symm)
        obtain ⟨DP, hDP, hDP1, hDP2⟩ : ∃ DP : Int, DP = (if dot then S.dp else (S.nd : Int)) ∧ -(i : Int) ≤ DP ∧ DP ≤ i + 800 := ⟨_, rfl, by split <;> omega, by split <;> omega⟩
        have HV := hide (show ∀ X, stOf s a i X = ⟨S.D, S.nd, DP + X, S.tr⟩ from fun X => by unfold stOf; rw [unhide HE, hDP]; rfl)
        have HDP := hide hDP
        have HI := hide (unhide HH).2.2.2.2.2
        clear hDP HH HE
        rcases (unhide HS).ex with e | ⟨b, es, hE⟩
        · have hiz : ¬ ((i : Int) < (s.size : Int)) := by omega
          have He := hide (show (i : Int) = (s.size : Int) by omega)
          clear e
          go_upto_if 120 with fail
          go_cut [] from 34 to 127 (fun wx => Hid (In A neg ⟨S.D, S.nd, DP, S.tr⟩ wx ∧ Below A w wx))
          case first =>
            cases dot
            · go_wp2
              go_meet
              exact ⟨by rw [unhide HDP]; exact DecAt.setDp (unhide HI).1 _, (unhide HI).2.setCell (p := ⟨A, 801, none⟩) (Nat.le_refl _) _⟩
            · go_wp2
              go_meet
              exact ⟨by rw [unhide HDP]; exact (unhide HI).1, (unhide HI).2⟩
          case rest =>
            clear cn fn cp fp ct ft
            have hieq := unhide He
            go_wp2
            go_ret
            exact ⟨rfl, ⟨0, by decide, by decide, fun _ => rfl, by rw [unhide HV, Int.add_zero]; exact (unhide hcut).1⟩, (unhide hcut).2⟩
        · obtain ⟨hE1, hE2, hE3, hE4⟩ := hE
          obtain ⟨hi, hec⟩ := hE1
          obtain ⟨y, hy⟩ : ∃ y : UInt8, s[i]'hi = y := ⟨_, rfl⟩
          rw [hy] at hec
          have hlow := low_e y hec
          have hiz : (i : Int) < (s.size : Int) := by omega
          have z1 : ¬ ((y.toNat : Int) = 95) := by omega
          have z2 : ¬ ((y.toNat : Int) = 46) := by omega
          have z3 : (48 : Int) ≤ (y.toNat : Int) := by omega
          have z4 : ¬ ((y.toNat : Int) ≤ 57) := by omega
          have hi1 : (i : Int) + 1 < (s.size : Int) := by omega
          have hi1' : ¬ ((s.size : Int) ≤ (i : Int) + 1) := by omega
          obtain ⟨y2, hy2⟩ : ∃ y2 : UInt8, s[i + 1]'(by omega) = y2 := ⟨_, rfl⟩
          have HD4 := hide hE4
          have HEs : Hid ((b = 0 ∧ es = 1 ∧ ¬ ((y2.toNat : Int) = 43) ∧ ¬ ((y2.toNat : Int) = 45)) ∨ (b = 1 ∧ es = 1 ∧ ((y2.toNat : Int) = 43)) ∨ (b = 1 ∧ es = -1 ∧ ((y2.toNat : Int) = 45))) := by
            rcases hE2 with ⟨h1, h2⟩ | ⟨h1, hh, ⟨h2, h3⟩ | ⟨h2, h3⟩⟩
            · subst h1
              have hd := hE4 (i + 1) (by omega) (by omega)
              rw [hy2] at hd
              unfold isDig at hd
              exact .inl ⟨rfl, h2, by omega, by omega⟩
            · rw [hy2] at h2
              exact .inr (.inl ⟨h1, h3, by omega⟩)
            · rw [hy2] at h2
              exact .inr (.inr ⟨h1, h3, by omega⟩)
          have hb1 : b ≤ 1 := by rcases hE2 with ⟨h1, _⟩ | ⟨h1, _⟩ <;> omega
          have hes : es = 1 ∨ es = -1 := by
            rcases unhide HEs with ⟨_, h, _⟩ | ⟨_, h, _⟩ | ⟨_, h, _⟩
            · exact .inl h
            · exact .inl h
            · exact .inr h
          have HES := hide hes
          have Hmn := hide (show i = s.size → False by omega)
          clear hE2 hE4 hec hes
          go_upto_if 120 with fail
          go_cut [] from 34 to 127 (fun wx => Hid (In A neg ⟨S.D, S.nd, DP, S.tr⟩ wx ∧ Below A w wx))
          case first =>
            cases dot
            · go_wp2
              go_meet
              exact ⟨by rw [unhide HDP]; exact DecAt.setDp (unhide HI).1 _, (unhide HI).2.setCell (p := ⟨A, 801, none⟩) (Nat.le_refl _) _⟩
            · go_wp2
              go_meet
              exact ⟨by rw [unhide HDP]; exact (unhide HI).1, (unhide HI).2⟩
          case rest =>
            clear cn fn cp fp ct ft
            have HJ := hide (unhide hcut)
            clear hcut HI HDP
            go_upto_block 4 with (go_at_call 36; refine (unhide HL _ _).mono ?_; rintro e w' ⟨rfl, hw⟩; obtain rfl := hw.symm)
            go_cut [5, 8] from 145 to 155 (fun v7 v19 wx => v7 = .int .i64 ((i + 1 + b : Nat) : Int) ∧ v19 = .int .i64 es ∧ wx = wc)
            case first =>
              rcases unhide HEs with ⟨rfl, rfl, n1, n2⟩ | ⟨rfl, rfl, n1⟩ | ⟨rfl, rfl, n1⟩
              · go_wp2
                go_meet
                exact ⟨by go_num, rfl, rfl⟩
              · go_wp2
                go_meet
                exact ⟨by go_num, rfl, rfl⟩
              · go_wp2
                go_meet
                exact ⟨by go_num, rfl, rfl⟩
            case rest =>
              obtain ⟨rfl, rfl, rfl⟩ := hcut
              clear HEs hy2 hi1 hi1' z1 z2 z3 z4 hlow hy hiz
              obtain ⟨j, hj⟩ : ∃ j, j = i + 1 + b := ⟨_, rfl⟩
              rw [← hj] at hE3 HD4 ⊢
              have hjz : (j : Int) < (s.size : Int) := by omega
              have hjz' : ¬ ((s.size : Int) ≤ (j : Int)) := by omega
              obtain ⟨y3, hy3⟩ : ∃ y3 : UInt8, s[j]'(by omega) = y3 := ⟨_, rfl⟩
              have hd3 := unhide HD4 j (by omega) (Nat.le_refl _)
              rw [hy3] at hd3
              unfold isDig at hd3
              have q1 : ¬ ((y3.toNat : Int) < 48) := by omega
              have q2 : ¬ ((57 : Int) < (y3.toNat : Int)) := by omega
              have hjl : j ≤ s.size := by omega
              clear hj hd3
              go_wp2
              clear hjz hjz' q1 q2
              go_loopg [5, 9] (s.size - j) (fun gf s7 s20 wx => ∃ (l : Nat) (E : Int), l + gf = s.size ∧ j ≤ l ∧ s7 = .int .i64 l ∧ s20 = .int .i64 E ∧ 0 ≤ E ∧ E ≤ 99999 ∧ wx = wc)
              case atStart => exact ⟨j, 0, by omega, by omega, rfl, rfl, by omega, by omega, rfl⟩
              case round =>
                obtain ⟨l, E, hlg, hjle, rfl, rfl, hE0, hE9, rfl⟩ := hrel
                cases gk with
                | zero =>
                  obtain rfl : l = s.size := by omega
                  have hlz : ¬ ((s.size : Int) < (s.size : Int)) := by omega
                  have cp := (unhide HJ).1.dp
                  have fp := (unhide HJ).1.fr 801 (by omega)
                  dsimp only at cp
                  rcases unhide HES with rfl | rfl
                  · go_wp2
                    go_ret
                    exact ⟨rfl, ⟨E, by omega, by omega, fun h => (unhide Hmn h).elim, by rw [unhide HV]; exact DecAt.setDp (unhide HJ).1 _⟩, (unhide HJ).2.setCell (p := ⟨A, 801, none⟩) (Nat.le_refl _) _⟩
                  · go_wp2
                    go_ret
                    exact ⟨rfl, ⟨-E, by omega, by omega, fun h => (unhide Hmn h).elim, by rw [unhide HV]; exact DecAt.setDp (unhide HJ).1 _⟩, (unhide HJ).2.setCell (p := ⟨A, 801, none⟩) (Nat.le_refl _) _⟩
                | succ g =>
                  have hl : l < s.size := by omega
                  have hlz : (l : Int) < (s.size : Int) := by omega
                  obtain ⟨c, hc⟩ : ∃ c : UInt8, s[l]'hl = c := ⟨_, rfl⟩
                  have hcd := unhide HD4 l hl hjle
                  rw [hc] at hcd
                  unfold isDig at hcd
                  have c1 : (48 : Int) ≤ (c.toNat : Int) := by omega
                  have c2 : (c.toNat : Int) ≤ 57 := by omega
                  have c3 : ¬ ((c.toNat : Int) = 95) := by omega
                  by_cases h4 : E < 10000
                  · go_wp2
                    go_roundg g
                    case measure => omega
                    case rel => exact ⟨l + 1, E * 10 + c.toNat - 48, by omega, by omega, by go_num, by go_num, by omega, by omega, rfl⟩
                  · go_wp2
                    go_roundg g
                    case measure => omega
                    case rel => exact ⟨l + 1, E, by omega, by omega, by go_num, rfl, by omega, by omega, rfl⟩
      | succ g =>
        have hi : i < s.size := by omega
        have hiz : (i : Int) < (s.size : Int) := by omega
        obtain ⟨x, hx⟩ : ∃ x : UInt8, s[i]'hi = x := ⟨_, rfl⟩
        have hxd := (unhide HS).all i hi (unhide HH).1 (by omega)
        have HA := hide (show a ≤ i + 1 from Nat.le_succ_of_le (unhide HH).1)
        have HK := hide ((unhide HH).2.1.step _ hxd)
        have HE := hide (show stRun s g (i + 1) (stStep S (s[i]'hi).toNat, dot || decide ((s[i]'hi).toNat = 46)) = stAll s a m by
          rw [← (unhide HH).2.2.1]
          conv => rhs; unfold stRun
          rw [dif_pos hi])
        have HI := hide (unhide HH).2.2.2.2.2
        rw [hx] at hxd
        have HX := hide (congrArg UInt8.toNat hx)
        rw [unhide HX] at HK HE
        unfold dotDig at hxd
        have n95 : ¬ ((x.toNat : Int) = 95) := by omega
        by_cases c46 : x.toNat = 46
        · have hdot : dot = false := by
            cases hdt : dot with
            | false => rfl
            | true =>
              obtain ⟨j, hja, hj, hjs, e⟩ := (unhide HH).2.2.2.1 hdt
              have := (unhide HS).one i j hi hjs (unhide HH).1 (by omega) hja (by omega) (by rw [unhide HX]; exact c46) e
              omega
          subst hdot
          rw [show stStep S x.toNat = ⟨S.D, S.nd, S.nd, S.tr⟩ by unfold stStep; rw [if_pos c46]] at HK HE
          rw [show (false || decide (x.toNat = 46)) = true by rw [decide_eq_true c46]; rfl] at HE
          have HJ := hide (show ∃ j, a ≤ j ∧ j < i + 1 ∧ ∃ h : j < s.size, (s[j]'h).toNat = 46 from ⟨i, (unhide HH).1, by omega, hi, by rw [unhide HX]; exact c46⟩)
          have HD := hide (show (∃ j, a ≤ j ∧ j < i + 1 ∧ ∃ h : j < s.size, (s[j]'h).toNat ≠ 46) → dig = true from fun ⟨j, hja, hj, hjs, hn⟩ => (unhide HH).2.2.2.2.1 ⟨j, hja, by
            by_cases e : j = i
            · subst e; rw [unhide HX] at hn; exact absurd c46 hn
            · omega, hjs, hn⟩)
          have z46 : (x.toNat : Int) = 46 := by omega
          clear c46 hxd n95 HX HH
          go_wp2
          go_roundg g
          case measure => omega
          case rel => exact ⟨i + 1, ⟨S.D, S.nd, S.nd, S.tr⟩, true, dig, by omega, by go_num, rfl, rfl, unhide HA, unhide HK, unhide HE, (fun _ => unhide HJ), unhide HD, DecAt.setDp (unhide HI).1 _, (unhide HI).2.setCell (p := ⟨A, 801, none⟩) (Nat.le_refl _) _⟩
        · have z46 : ¬ ((x.toNat : Int) = 46) := by omega
          have a48 : (48 : Int) ≤ (x.toNat : Int) := by omega
          have a57 : (x.toNat : Int) ≤ 57 := by omega
          rw [show (dot || decide (x.toNat = 46)) = dot by rw [decide_eq_false c46, Bool.or_false]] at HE
          have HJ := hide (show dot = true → ∃ j, a ≤ j ∧ j < i + 1 ∧ ∃ h : j < s.size, (s[j]'h).toNat = 46 from fun hdt => by
            obtain ⟨j, hja, hj, hjs, e⟩ := (unhide HH).2.2.2.1 hdt
            exact ⟨j, hja, by omega, hjs, e⟩)
          clear HH
          by_cases c48 : x.toNat = 48 ∧ S.nd = 0
          · rw [show stStep S x.toNat = ⟨S.D, S.nd, S.dp - 1, S.tr⟩ by unfold stStep; rw [if_neg c46, if_pos c48]] at HK HE
            obtain ⟨c48a, c48b⟩ := c48
            have z48 : (x.toNat : Int) = 48 := by omega
            have zn : (S.nd : Int) = 0 := by omega
            clear c46 hxd n95 HX c48a a48 a57 z46 c48b
            go_wp2
            go_roundg g
            case measure => omega
            case rel => exact ⟨i + 1, ⟨S.D, S.nd, S.dp - 1, S.tr⟩, dot, true, by omega, by go_num, rfl, rfl, unhide HA, unhide HK, unhide HE, unhide HJ, (fun _ => rfl), DecAt.setDp (unhide HI).1 _, (unhide HI).2.setCell (p := ⟨A, 801, none⟩) (Nat.le_refl _) _⟩
          · by_cases c8 : S.nd < 800
            · rw [show stStep S x.toNat = ⟨put S.D S.nd x.toNat, S.nd + 1, S.dp, S.tr⟩ by unfold stStep; rw [if_neg c46, if_neg c48, if_pos c8]] at HK HE
              have z8 : (S.nd : Int) < 800 := by omega
              have cw := (unhide HI).1.dig S.nd c8
              have fw := (unhide HI).1.fr S.nd (by omega)
              by_cases e48 : x.toNat = 48
              · have z48 : (x.toNat : Int) = 48 := by omega
                have zn : ¬ ((S.nd : Int) = 0) := by omega
                rw [z48] at HK HE
                have HC8 := hide c8
                clear c46 hxd n95 HX a48 a57 z46 c48 e48 c8
                go_wp2
                go_region
                go_wp2
                go_roundg g
                case measure => omega
                case rel => exact ⟨i + 1, ⟨put S.D S.nd 48, S.nd + 1, S.dp, S.tr⟩, dot, true, by omega, by go_num, rfl, rfl, unhide HA, unhide HK, unhide HE, unhide HJ, (fun _ => rfl), DecAt.drewN (DecAt.setNd (DecAt.setDig (unhide HI).1 S.nd (unhide HC8) _) (S.nd + 1)) 1, (((unhide HI).2.setCell (p := ⟨A, S.nd, none⟩) (Nat.le_refl _) _).setCell (p := ⟨A, 800, none⟩) (Nat.le_refl _) _).drew⟩
              · have z48 : ¬ ((x.toNat : Int) = 48) := by omega
                have HC8 := hide c8
                clear c46 hxd n95 HX c48 e48 c8
                go_wp2
                go_region
                go_wp2
                go_roundg g
                case measure => omega
                case rel => exact ⟨i + 1, ⟨put S.D S.nd x.toNat, S.nd + 1, S.dp, S.tr⟩, dot, true, by omega, by go_num, rfl, rfl, unhide HA, unhide HK, unhide HE, unhide HJ, (fun _ => rfl), DecAt.drewN (DecAt.setNd (DecAt.setDig (unhide HI).1 S.nd (unhide HC8) _) (S.nd + 1)) 1, (((unhide HI).2.setCell (p := ⟨A, S.nd, none⟩) (Nat.le_refl _) _).setCell (p := ⟨A, 800, none⟩) (Nat.le_refl _) _).drew⟩
            · have z8 : ¬ ((S.nd : Int) < 800) := by omega
              have zn : ¬ ((S.nd : Int) = 0) := by omega
              by_cases e48 : x.toNat = 48
              · rw [show stStep S x.toNat = ⟨S.D, S.nd, S.dp, S.tr⟩ by unfold stStep; rw [if_neg c46, if_neg c48, if_neg c8, if_pos e48]] at HK HE
                have z48 : (x.toNat : Int) = 48 := by omega
                clear c46 hxd n95 HX a48 a57 z46 c48 e48 c8
                go_wp2
                go_roundg g
                case measure => omega
                case rel => exact ⟨i + 1, ⟨S.D, S.nd, S.dp, S.tr⟩, dot, true, by omega, by go_num, rfl, rfl, unhide HA, unhide HK, unhide HE, unhide HJ, (fun _ => rfl), (unhide HI).1, (unhide HI).2⟩
              · rw [show stStep S x.toNat = ⟨S.D, S.nd, S.dp, true⟩ by unfold stStep; rw [if_neg c46, if_neg c48, if_neg c8, if_neg e48]] at HK HE
                have z48 : ¬ ((x.toNat : Int) = 48) := by omega
                clear c46 hxd n95 HX c48 e48 c8
                go_wp2
                go_roundg g
                case measure => omega
                case rel => exact ⟨i + 1, ⟨S.D, S.nd, S.dp, true⟩, dot, true, by omega, by go_num, rfl, rfl, unhide HA, unhide HK, unhide HE, unhide HJ, (fun _ => rfl), DecAt.setTr (unhide HI).1 _, (unhide HI).2.setCell (p := ⟨A, 803, none⟩) (Nat.le_refl _) _⟩
end Go.Proofs.Qxb6606071aDoor.Fl
