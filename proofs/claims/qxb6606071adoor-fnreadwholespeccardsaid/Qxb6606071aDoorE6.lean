import Derived.Test.Qxb6606071aDoorE5
import Derived.Deep.Cut
import Derived.Deep.CutRange
import Derived.Deep.CutBlock
import Derived.Deep.DeepCutAuto
/- readFloat's walk. -/
namespace Go.Proofs.Qxb6606071aDoor.Fl
open Go Go.RowKit

theorem low_not_x (c : UInt8) (h : dotDig c ∨ c.toNat = 101 ∨ c.toNat = 69) : ¬ (bits BinOp.or .u8 (c.toNat : Int) 32 = 120) := by
  have all : ∀ n : Nat, n < 102 → (46 ≤ n ∧ n < 58 ∨ n = 101 ∨ n = 69) → ¬ (bits BinOp.or .u8 (n : Int) 32 = 120) := by decide +kernel
  unfold dotDig at h
  exact all c.toNat (by omega) (by omega)
theorem low_e (c : UInt8) (h : c.toNat = 101 ∨ c.toNat = 69) : bits BinOp.or .u8 (c.toNat : Int) 32 = 101 := by
  rcases h with h | h <;> (rw [h]; decide)

theorem NumText.next {s : ByteArray} {a m : Nat} {neg : Bool} (h : NumText s a m neg) (h2 : a + 2 < s.size) : dotDig (s[a + 1]'(by omega)) ∨ (s[a + 1]'(by omega)).toNat = 101 ∨ (s[a + 1]'(by omega)).toNat = 69 := by
  by_cases hm : a + 1 < m
  · exact .inl (h.all (a + 1) (by omega) (by omega) hm)
  · have h1 := h.am
    obtain rfl : a + 1 = m := by omega
    rcases h.ex with e | ⟨b, es, hE⟩
    · omega
    · obtain ⟨_, he⟩ := hE.e
      exact .inr he

/-- the exponent's digits read, the machine's way: its answer. -/
def eStep (e c : Int) : Int := if e < 10000 then e * 10 + (c - 48) else e
theorem eStep_range (e c : Int) (h : 0 ≤ e ∧ e ≤ 99999) (hc : 48 ≤ c ∧ c ≤ 57) : 0 ≤ eStep e c ∧ eStep e c ≤ 99999 := by
  unfold eStep
  split <;> omega

set_option maxHeartbeats 4000000 in
set_option maxRecDepth 100000 in
theorem readFloat_any (s : ByteArray) (a m : Nat) (neg : Bool) (hs : NumText s a m neg) (w : World) :
    Calls Tryd.prog 47 #[.string s] w fun e w' => (∃ X : Int, -99999 ≤ X ∧ X ≤ 99999 ∧ (m = s.size → X = 0) ∧ e = .returned (.tuple #[.int .u64 (rfAll s a m).m, .int .i64 (rfExp (rfAll s a m) X), .bool neg, .bool (rfAll s a m).tr, .bool false, .int .i64 s.size, .bool true])) ∧ w' = w := by
  have h0 := hs.pos
  have HS := hide hs
  have hlen := hs.len
  have ham := hs.am
  have hml := hs.le
  have ha1 := hs.a1
  have hz : ¬ ((s.size : Int) ≤ 0) := by omega
  have hp : (0 : Int) < (s.size : Int) := by omega
  have hne : ¬ (s = ByteArray.empty) := by rintro rfl; exact absurd h0 (by decide)
  have HL := hide lower_any
  obtain ⟨x, hx⟩ : ∃ x : UInt8, s[0]'h0 = x := ⟨_, rfl⟩
  have HG : Hid ((a = 0 ∧ neg = false ∧ ¬ ((x.toNat : Int) = 43) ∧ ¬ ((x.toNat : Int) = 45)) ∨ (a = 1 ∧ neg = false ∧ ((x.toNat : Int) = 43)) ∨ (a = 1 ∧ neg = true ∧ ((x.toNat : Int) = 45))) := by
    rcases hs.sg with ⟨h1, h2⟩ | ⟨h1, _, ⟨h2, h3⟩ | ⟨h2, h3⟩⟩
    · subst h1
      have hd := hs.all 0 h0 (Nat.le_refl _) ham
      rw [hx] at hd
      unfold dotDig at hd
      exact .inl ⟨rfl, h2, by omega, by omega⟩
    · rw [hx] at h2
      exact .inr (.inl ⟨h1, h3, by omega⟩)
    · rw [hx] at h2
      exact .inr (.inr ⟨h1, h3, by omega⟩)
  clear hs
  go_enter Tryd.func47, Tryd.ntmps47
  go_wp2
  go_step3
  go_upto_block 0 with fail
  go_cut [4, 7] from 25 to 35 (fun v4 v7 wx => v4 = .bool neg ∧ v7 = .int .i64 (a : Int) ∧ wx = w)
  case first =>
    rcases unhide HG with ⟨rfl, rfl, n1, n2⟩ | ⟨rfl, rfl, n1⟩ | ⟨rfl, rfl, n1⟩
    · go_wp2
      go_meet
      exact ⟨rfl, rfl, rfl⟩
    · go_wp2
      go_meet
      exact ⟨rfl, rfl, rfl⟩
    · go_wp2
      go_meet
      exact ⟨rfl, rfl, rfl⟩
  case rest =>
    obtain ⟨rfl, rfl, rfl⟩ := hcut
    clear HG hx
    have haz : (a : Int) < (s.size : Int) := by omega
    go_upto_region 12 with fail
    go_cut [54] from 36 to 53 (fun v wx => v = .bool false ∧ wx = wc)
    case first =>
      by_cases h2 : a + 2 < s.size
      · have h2z : (a : Int) + 2 < (s.size : Int) := by omega
        have h1z : (a : Int) + 1 < (s.size : Int) := by omega
        obtain ⟨y, hy⟩ : ∃ y : UInt8, s[a + 1]'(by omega) = y := ⟨_, rfl⟩
        obtain ⟨z, hz2⟩ : ∃ z : UInt8, s[a]'(by omega) = z := ⟨_, rfl⟩
        have hyd := (unhide HS).next h2
        rw [hy] at hyd
        have hnx : (bits BinOp.or .u8 (y.toNat : Int) 32 == 120) = false := by simpa using low_not_x y hyd
        clear hyd
        by_cases h48 : (z.toNat : Int) = 48
        · go_wp2_with (go_at_call 36; refine (unhide HL _ _).mono ?_; rintro e w' ⟨rfl, hw⟩; obtain rfl := hw.symm)
          go_meet
          exact ⟨rfl, rfl⟩
        · go_wp2
          go_meet
          exact ⟨rfl, rfl⟩
      · have h2z : ¬ ((a : Int) + 2 < (s.size : Int)) := by omega
        go_wp2
        go_meet
        exact ⟨rfl, rfl⟩
    case rest =>
      obtain ⟨rfl, rfl⟩ := hcut
      go_wp2
      go_step3
      go_wp2
      go_loopg [2, 5, 7, 9, 13, 14, 15, 16, 17, 18] (m - a) (fun gf s2 s5 s7 s9 s13 s14 s15 s16 s17 s18 wx => ∃ (i : Nat) (R : RF), i + gf = m ∧ s2 = .int .u64 R.m ∧ s5 = .bool R.tr ∧ s7 = .int .i64 i ∧ s9 = .bool false ∧ s13 = .bool R.dot ∧ s14 = .bool R.dig ∧
        s15 = .int .i64 R.nd ∧ s16 = .int .i64 R.nm ∧ s17 = .int .i64 R.dp ∧ Hid (a ≤ i ∧ RFok s a i R ∧ rfRun s gf i R = rfAll s a m) ∧ wx = wc)
      case atStart => exact ⟨a, rf0, by omega, rfl, rfl, rfl, rfl, rfl, rfl, rfl, rfl, rfl, ⟨Nat.le_refl _, RFok.start s a, rfl⟩, rfl⟩
      case round =>
        obtain ⟨i, ⟨M, nd, nm, dp, dot, dig, tr⟩, hig, rfl, rfl, rfl, rfl, rfl, rfl, rfl, rfl, rfl, HH, rfl⟩ := hrel
        have f1 := (unhide HH).2.1.nd
        have f2 := (unhide HH).2.1.nm
        have f3 := (unhide HH).2.1.dp
        dsimp only at f1 f2 f3 ⊢
        cases gk with
        | zero =>
          obtain rfl : i = m := by omega
          have hdig : dig = true := by
            refine (unhide HH).2.1.dig ?_
            obtain ⟨j, hj1, hj2, hj, hn⟩ := (unhide HS).dig
            exact ⟨j, hj1, hj2, hj, hn⟩
          subst hdig
          have HE := hide (show rfAll s a i = ⟨M, nd, nm, dp, dot, true, tr⟩ from (unhide HH).2.2.symm)
          have HV := hide (show ∀ X, rfExp (rfAll s a i) X = if M = 0 then 0 else (if dot then dp else (nd : Int)) + X - nm from fun X => by rw [unhide HE]; rfl)
          have HV2 := hide (show (rfAll s a i).m = M ∧ (rfAll s a i).tr = tr by rw [unhide HE]; exact ⟨rfl, rfl⟩)
          obtain ⟨DP, hDP, hDP1, hDP2⟩ : ∃ DP : Int, DP = (if dot then dp else (nd : Int)) ∧ -(i : Int) ≤ DP ∧ DP ≤ i := ⟨_, rfl, by split <;> omega, by split <;> omega⟩
          rw [← hDP] at HV
          have HDP := hide hDP
          clear hDP HH HE
          rcases (unhide HS).ex with e | ⟨b, es, hE⟩
          · have hiz : ¬ ((i : Int) < (s.size : Int)) := by omega
            have He := hide (show (s.size : Int) = (i : Int) by omega)
            clear e
            go_upto_if 142 with fail
            go_cut [17] from 139 to 143 (fun v wx => v = .int .i64 DP ∧ wx = wr)
            case first =>
              cases dot
              · go_wp2
                go_meet
                exact ⟨by rw [unhide HDP]; rfl, rfl⟩
              · go_wp2
                go_meet
                exact ⟨by rw [unhide HDP]; rfl, rfl⟩
            case rest =>
              obtain ⟨rfl, rfl⟩ := hcut
              by_cases hm : M = 0
              · subst hm
                go_wp2
                try rw [Exit.noGoto_ret]
                refine bodyPost_ret (results_tmp7 rfl _ _ _) rfl ?_
                refine ⟨⟨0, by decide, by decide, fun _ => rfl, ?_⟩, rfl⟩
                rw [unhide HV, (unhide HV2).1, (unhide HV2).2]
                try rw [if_pos rfl]
                rw [unhide He]
                rfl
              · go_wp2
                try rw [Exit.noGoto_ret]
                refine bodyPost_ret (results_tmp7 rfl _ _ _) rfl ?_
                refine ⟨⟨0, by decide, by decide, fun _ => rfl, ?_⟩, rfl⟩
                rw [unhide HV, (unhide HV2).1, (unhide HV2).2, if_neg hm, Int.add_zero, unhide He]
                rfl
          · obtain ⟨hE1, hE2, hE3, hE4⟩ := hE
            obtain ⟨hi, hec⟩ := hE1
            obtain ⟨y, hy⟩ : ∃ y : UInt8, s[i]'hi = y := ⟨_, rfl⟩
            rw [hy] at hec
            have hlow := low_e y hec
            have hiz : (i : Int) < (s.size : Int) := by omega
            have z1 : ¬ ((y.toNat : Int) = 95) := by omega
            have z2 : ¬ ((y.toNat : Int) = 46) := by omega
            have z3 : (48 : Int) ≤ (y.toNat : Int) := by omega
            have z4 : ¬ ((y.toNat : Int) ≤ 57) := by omega
            have hi1 : (i : Int) + 1 < (s.size : Int) := by omega
            have hi1' : ¬ ((s.size : Int) ≤ (i : Int) + 1) := by omega
            obtain ⟨y2, hy2⟩ : ∃ y2 : UInt8, s[i + 1]'(by omega) = y2 := ⟨_, rfl⟩
            have HD4 := hide hE4
            have HEs : Hid ((b = 0 ∧ es = 1 ∧ ¬ ((y2.toNat : Int) = 43) ∧ ¬ ((y2.toNat : Int) = 45)) ∨ (b = 1 ∧ es = 1 ∧ ((y2.toNat : Int) = 43)) ∨ (b = 1 ∧ es = -1 ∧ ((y2.toNat : Int) = 45))) := by
              rcases hE2 with ⟨h1, h2⟩ | ⟨h1, hh, ⟨h2, h3⟩ | ⟨h2, h3⟩⟩
              · subst h1
                have hd := hE4 (i + 1) (by omega) (by omega)
                rw [hy2] at hd
                unfold isDig at hd
                exact .inl ⟨rfl, h2, by omega, by omega⟩
              · rw [hy2] at h2
                exact .inr (.inl ⟨h1, h3, by omega⟩)
              · rw [hy2] at h2
                exact .inr (.inr ⟨h1, h3, by omega⟩)
            have hb1 : b ≤ 1 := by rcases hE2 with ⟨h1, _⟩ | ⟨h1, _⟩ <;> omega
            have hes : es = 1 ∨ es = -1 := by
              rcases unhide HEs with ⟨_, h, _⟩ | ⟨_, h, _⟩ | ⟨_, h, _⟩
              · exact .inl h
              · exact .inl h
              · exact .inr h
            have HES := hide hes
            have Hmn := hide (show i = s.size → False by omega)
            clear hE2 hE4 hec hes
            go_upto_if 142 with fail
            go_cut [17] from 57 to 143 (fun v wx => v = .int .i64 DP ∧ wx = wr)
            case first =>
              cases dot
              · go_wp2
                go_meet
                exact ⟨by rw [unhide HDP]; rfl, rfl⟩
              · go_wp2
                go_meet
                exact ⟨by rw [unhide HDP]; rfl, rfl⟩
            case rest =>
              obtain ⟨rfl, rfl⟩ := hcut
              go_upto_block 4 with (go_at_call 36; refine (unhide HL _ _).mono ?_; rintro e w' ⟨rfl, hw⟩; obtain rfl := hw.symm)
              go_cut [7, 19] from 168 to 178 (fun v7 v19 wx => v7 = .int .i64 ((i + 1 + b : Nat) : Int) ∧ v19 = .int .i64 es ∧ wx = wc)
              case first =>
                rcases unhide HEs with ⟨rfl, rfl, n1, n2⟩ | ⟨rfl, rfl, n1⟩ | ⟨rfl, rfl, n1⟩
                · go_wp2
                  go_meet
                  exact ⟨by go_num, rfl, rfl⟩
                · go_wp2
                  go_meet
                  exact ⟨by go_num, rfl, rfl⟩
                · go_wp2
                  go_meet
                  exact ⟨by go_num, rfl, rfl⟩
              case rest =>
                obtain ⟨rfl, rfl, rfl⟩ := hcut
                clear HEs hy2 hi1 hi1' z1 z2 z3 z4 hlow hy hiz
                obtain ⟨j, hj⟩ : ∃ j, j = i + 1 + b := ⟨_, rfl⟩
                rw [← hj] at hE3 HD4 ⊢
                have hjz : (j : Int) < (s.size : Int) := by omega
                have hjz' : ¬ ((s.size : Int) ≤ (j : Int)) := by omega
                obtain ⟨y3, hy3⟩ : ∃ y3 : UInt8, s[j]'(by omega) = y3 := ⟨_, rfl⟩
                have hd3 := unhide HD4 j (by omega) (Nat.le_refl _)
                rw [hy3] at hd3
                unfold isDig at hd3
                have q1 : ¬ ((y3.toNat : Int) < 48) := by omega
                have q2 : ¬ ((57 : Int) < (y3.toNat : Int)) := by omega
                have hjl : j ≤ s.size := by omega
                clear hj hd3
                go_wp2
                clear hjz hjz' q1 q2
                go_loopg [7, 9, 20] (s.size - j) (fun gf s7 s9 s20 wx => ∃ (l : Nat) (E : Int), l + gf = s.size ∧ j ≤ l ∧ s7 = .int .i64 l ∧ s9 = .bool false ∧ s20 = .int .i64 E ∧ 0 ≤ E ∧ E ≤ 99999 ∧ wx = wc)
                case atStart => exact ⟨j, 0, by omega, by omega, rfl, rfl, rfl, by omega, by omega, rfl⟩
                case round =>
                  obtain ⟨l, E, hlg, hjle, rfl, rfl, rfl, hE0, hE9, rfl⟩ := hrel
                  cases gk with
                  | zero =>
                    obtain rfl : l = s.size := by omega
                    have hlz : ¬ ((s.size : Int) < (s.size : Int)) := by omega
                    rcases unhide HES with rfl | rfl
                    · by_cases hm : M = 0
                      · subst hm
                        go_wp2
                        try rw [Exit.noGoto_ret]
                        refine bodyPost_ret (results_tmp7 rfl _ _ _) rfl ?_
                        refine ⟨⟨E, by omega, by omega, fun h => (unhide Hmn h).elim, ?_⟩, rfl⟩
                        rw [unhide HV, (unhide HV2).1, (unhide HV2).2]
                        try rw [if_pos rfl]
                        rfl
                      · go_wp2
                        try rw [Exit.noGoto_ret]
                        refine bodyPost_ret (results_tmp7 rfl _ _ _) rfl ?_
                        refine ⟨⟨E, by omega, by omega, fun h => (unhide Hmn h).elim, ?_⟩, rfl⟩
                        rw [unhide HV, (unhide HV2).1, (unhide HV2).2, if_neg hm]
                        rfl
                    · by_cases hm : M = 0
                      · subst hm
                        go_wp2
                        try rw [Exit.noGoto_ret]
                        refine bodyPost_ret (results_tmp7 rfl _ _ _) rfl ?_
                        refine ⟨⟨-E, by omega, by omega, fun h => (unhide Hmn h).elim, ?_⟩, rfl⟩
                        rw [unhide HV, (unhide HV2).1, (unhide HV2).2]
                        try rw [if_pos rfl]
                        rfl
                      · go_wp2
                        try rw [Exit.noGoto_ret]
                        refine bodyPost_ret (results_tmp7 rfl _ _ _) rfl ?_
                        refine ⟨⟨-E, by omega, by omega, fun h => (unhide Hmn h).elim, ?_⟩, rfl⟩
                        rw [unhide HV, (unhide HV2).1, (unhide HV2).2, if_neg hm]
                        rfl
                  | succ g =>
                    have hl : l < s.size := by omega
                    have hlz : (l : Int) < (s.size : Int) := by omega
                    obtain ⟨c, hc⟩ : ∃ c : UInt8, s[l]'hl = c := ⟨_, rfl⟩
                    have hcd := unhide HD4 l hl hjle
                    rw [hc] at hcd
                    unfold isDig at hcd
                    have c1 : (48 : Int) ≤ (c.toNat : Int) := by omega
                    have c2 : (c.toNat : Int) ≤ 57 := by omega
                    have c3 : ¬ ((c.toNat : Int) = 95) := by omega
                    by_cases h4 : E < 10000
                    · go_wp2
                      go_roundg g
                      case measure => omega
                      case rel => exact ⟨l + 1, E * 10 + c.toNat - 48, by omega, by omega, by go_num, rfl, by go_num, by omega, by omega, rfl⟩
                    · go_wp2
                      go_roundg g
                      case measure => omega
                      case rel => exact ⟨l + 1, E, by omega, by omega, by go_num, rfl, rfl, by omega, by omega, rfl⟩
        | succ g =>
          have hi : i < s.size := by omega
          have hiz : (i : Int) < (s.size : Int) := by omega
          obtain ⟨x, hx⟩ : ∃ x : UInt8, s[i]'hi = x := ⟨_, rfl⟩
          have hxd := (unhide HS).all i hi (unhide HH).1 (by omega)
          have HA := hide (show a ≤ i + 1 from Nat.le_succ_of_le (unhide HH).1)
          have HK := hide ((unhide HH).2.1.step (unhide HH).1 hi)
          have HE := hide (show rfRun s g (i + 1) (rfStep ⟨M, nd, nm, dp, dot, dig, tr⟩ (s[i]'hi).toNat) = rfAll s a m by
            rw [← (unhide HH).2.2]
            conv => rhs; unfold rfRun
            rw [dif_pos hi])
          rw [hx] at hxd
          have HX := hide (congrArg UInt8.toNat hx)
          rw [unhide HX] at HK HE
          unfold dotDig at hxd
          have n95 : ¬ ((x.toNat : Int) = 95) := by omega
          by_cases c46 : x.toNat = 46
          · have hdot : dot = false := by
              cases hdt : dot with
              | false => rfl
              | true =>
                obtain ⟨j, hja, hj, hjs, e⟩ := (unhide HH).2.1.dot hdt
                have := (unhide HS).one i j hi hjs (unhide HH).1 (by omega) hja (by omega) (by rw [unhide HX]; exact c46) e
                omega
            subst hdot
            rw [show rfStep ⟨M, nd, nm, dp, false, dig, tr⟩ x.toNat = ⟨M, nd, nm, nd, true, dig, tr⟩ by unfold rfStep; rw [if_pos c46]] at HK HE
            have z46 : (x.toNat : Int) = 46 := by omega
            clear c46 hxd n95 HX
            go_wp2
            go_roundg g
            case measure => omega
            case rel => exact ⟨i + 1, ⟨M, nd, nm, nd, true, dig, tr⟩, by omega, rfl, rfl, by go_num, rfl, rfl, rfl, rfl, rfl, rfl, ⟨unhide HA, unhide HK, unhide HE⟩, rfl⟩
          · have z46 : ¬ ((x.toNat : Int) = 46) := by omega
            have a48 : (48 : Int) ≤ (x.toNat : Int) := by omega
            have a57 : (x.toNat : Int) ≤ 57 := by omega
            by_cases c48 : x.toNat = 48 ∧ nd = 0
            · rw [show rfStep ⟨M, nd, nm, dp, dot, dig, tr⟩ x.toNat = ⟨M, nd, nm, dp - 1, dot, true, tr⟩ by unfold rfStep; rw [if_neg c46, if_pos c48]] at HK HE
              obtain ⟨c48a, rfl⟩ := c48
              have z48 : (x.toNat : Int) = 48 := by omega
              clear c46 hxd n95 HX c48a a48 a57 z46
              go_wp2
              go_roundg g
              case measure => omega
              case rel => exact ⟨i + 1, ⟨M, 0, nm, dp - 1, dot, true, tr⟩, by omega, rfl, rfl, by go_num, rfl, rfl, rfl, rfl, rfl, rfl, ⟨unhide HA, unhide HK, unhide HE⟩, rfl⟩
            · by_cases c19 : nm < 19
              · rw [show rfStep ⟨M, nd, nm, dp, dot, dig, tr⟩ x.toNat = ⟨IntKind.u64.wrap (IntKind.u64.wrap (M * 10) + ((x.toNat : Int) - 48)), nd + 1, nm + 1, dp, dot, true, tr⟩ by unfold rfStep; rw [if_neg c46, if_neg c48, if_pos c19]] at HK HE
                have z19 : (nm : Int) < 19 := by omega
                by_cases e48 : x.toNat = 48
                · have z48 : (x.toNat : Int) = 48 := by omega
                  have zn : ¬ ((nd : Int) = 0) := by omega
                  rw [z48] at HK HE
                  clear c46 hxd n95 HX a48 a57 z46 c48 e48 c19
                  go_wp2
                  go_roundg g
                  case measure => omega
                  case rel => exact ⟨i + 1, ⟨IntKind.u64.wrap (IntKind.u64.wrap (M * 10) + ((48 : Int) - 48)), nd + 1, nm + 1, dp, dot, true, tr⟩, by omega, by simp, rfl, by go_num, rfl, rfl, rfl, by go_num, by go_num, rfl, ⟨unhide HA, unhide HK, unhide HE⟩, rfl⟩
                · have z48 : ¬ ((x.toNat : Int) = 48) := by omega
                  clear c46 hxd n95 HX c48 e48 c19
                  go_wp2
                  go_roundg g
                  case measure => omega
                  case rel => exact ⟨i + 1, ⟨IntKind.u64.wrap (IntKind.u64.wrap (M * 10) + ((x.toNat : Int) - 48)), nd + 1, nm + 1, dp, dot, true, tr⟩, by omega, rfl, rfl, by go_num, rfl, rfl, rfl, by go_num, by go_num, rfl, ⟨unhide HA, unhide HK, unhide HE⟩, rfl⟩
              · have z19 : ¬ ((nm : Int) < 19) := by omega
                by_cases e48 : x.toNat = 48
                · rw [show rfStep ⟨M, nd, nm, dp, dot, dig, tr⟩ x.toNat = ⟨M, nd + 1, nm, dp, dot, true, tr⟩ by unfold rfStep; rw [if_neg c46, if_neg c48, if_neg c19, if_pos e48]] at HK HE
                  have z48 : (x.toNat : Int) = 48 := by omega
                  have zn : ¬ ((nd : Int) = 0) := by omega
                  clear c46 hxd n95 HX a48 a57 z46 c48 e48 c19
                  go_wp2
                  go_roundg g
                  case measure => omega
                  case rel => exact ⟨i + 1, ⟨M, nd + 1, nm, dp, dot, true, tr⟩, by omega, rfl, rfl, by go_num, rfl, rfl, rfl, by go_num, rfl, rfl, ⟨unhide HA, unhide HK, unhide HE⟩, rfl⟩
                · rw [show rfStep ⟨M, nd, nm, dp, dot, dig, tr⟩ x.toNat = ⟨M, nd + 1, nm, dp, dot, true, true⟩ by unfold rfStep; rw [if_neg c46, if_neg c48, if_neg c19, if_neg e48]] at HK HE
                  have z48 : ¬ ((x.toNat : Int) = 48) := by omega
                  clear c46 hxd n95 HX c48 e48 c19
                  go_wp2
                  go_roundg g
                  case measure => omega
                  case rel => exact ⟨i + 1, ⟨M, nd + 1, nm, dp, dot, true, true⟩, by omega, rfl, rfl, by go_num, rfl, rfl, rfl, by go_num, rfl, rfl, ⟨unhide HA, unhide HK, unhide HE⟩, rfl⟩
end Go.Proofs.Qxb6606071aDoor.Fl
