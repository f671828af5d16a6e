import Derived.Test.Qxb6615497aGreatDoorE5
import Derived.Deep.Cut
import Derived.Deep.CutRange
import Derived.Deep.CutBlock
import Derived.Deep.DeepCutAuto
/- readFloat's walk. -/
namespace Go.Proofs.Qxb6615497aGreatDoor
open Go Go.RowKit

theorem low_not_x (c : UInt8) (h : dotDig c) : ¬ (bits BinOp.or .u8 (c.toNat : Int) 32 = 120) := by
  have all : ∀ n : Nat, n < 58 → 46 ≤ n → ¬ (bits BinOp.or .u8 (n : Int) 32 = 120) := by decide +kernel
  unfold dotDig at h
  exact all c.toNat (by omega) (by omega)

set_option maxHeartbeats 4000000 in
set_option maxRecDepth 100000 in
theorem readFloat_any (s : ByteArray) (hs : NumText s) (w : World) :
    Calls Tryz.prog 133 #[.string s] w fun e w' => e = .returned (.tuple #[.int .u64 (rfAll s).m, .int .i64 (rfExp (rfAll s)), .bool false, .bool (rfAll s).tr, .bool false, .int .i64 s.size, .bool true]) ∧ w' = w := by
  have h0 := hs.pos
  obtain ⟨x, hx⟩ : ∃ x : UInt8, s[0]'h0 = x := ⟨_, rfl⟩
  have hd := hs.all 0 h0
  rw [hx] at hd
  have HS := hide hs
  have hlen := hs.len
  have hz : ¬ ((s.size : Int) ≤ 0) := by omega
  have hp : (0 : Int) < (s.size : Int) := by omega
  have n1 : ¬ ((x.toNat : Int) = 43) := by unfold dotDig at hd; omega
  have n2 : ¬ ((x.toNat : Int) = 45) := by unfold dotDig at hd; omega
  have hne : ¬ (s = ByteArray.empty) := by rintro rfl; exact absurd h0 (by decide)
  have HL := hide lower_any
  have HD := hide hd
  clear hs hd
  go_enter Tryz.func133, Tryz.ntmps133
  go_wp2
  go_step3
  go_upto_region 12 with fail
  go_cut [54] from 23 to 53 (fun v wx => v = .bool false ∧ wx = w)
  case first =>
    by_cases h2 : 2 < s.size
    · have h2z : (2 : Int) < (s.size : Int) := by omega
      have h1z : (1 : Int) < (s.size : Int) := by omega
      obtain ⟨y, hy⟩ : ∃ y : UInt8, s[1]'(by omega) = y := ⟨_, rfl⟩
      have hyd := (unhide HS).all 1 (by omega)
      rw [hy] at hyd
      have hnx : (bits BinOp.or .u8 (y.toNat : Int) 32 == 120) = false := by simpa using low_not_x y hyd
      by_cases h48 : (x.toNat : Int) = 48
      · go_wp2_with (go_at_call 150; refine (unhide HL _ _).mono ?_; rintro e w' ⟨rfl, hw⟩; obtain rfl := hw.symm)
        go_meet
        exact ⟨rfl, rfl⟩
      · go_wp2
        go_meet
        exact ⟨rfl, rfl⟩
    · have h2z : ¬ ((2 : Int) < (s.size : Int)) := by omega
      go_wp2
      go_meet
      exact ⟨rfl, rfl⟩
  case rest =>
    obtain ⟨rfl, rfl⟩ := hcut
    go_wp2
    go_step3
    go_wp2
    go_loopg [2, 5, 7, 9, 13, 14, 15, 16, 17, 18] s.size (fun gf s2 s5 s7 s9 s13 s14 s15 s16 s17 s18 wx => ∃ (i : Nat) (R : RF), i + gf = s.size ∧ s2 = .int .u64 R.m ∧ s5 = .bool R.tr ∧ s7 = .int .i64 i ∧ s9 = .bool false ∧ s13 = .bool R.dot ∧ s14 = .bool R.dig ∧
      s15 = .int .i64 R.nd ∧ s16 = .int .i64 R.nm ∧ s17 = .int .i64 R.dp ∧ Hid (RFok s i R ∧ rfRun s gf i R = rfAll s) ∧ wx = wc)
    case atStart => exact ⟨0, rf0, by omega, rfl, rfl, rfl, rfl, rfl, rfl, rfl, rfl, rfl, ⟨RFok.start s, rfl⟩, rfl⟩
    case round =>
      obtain ⟨i, ⟨m, nd, nm, dp, dot, dig, tr⟩, hig, rfl, rfl, rfl, rfl, rfl, rfl, rfl, rfl, rfl, HH, rfl⟩ := hrel
      have f1 := (unhide HH).1.nd
      have f2 := (unhide HH).1.nm
      have f3 := (unhide HH).1.dp
      dsimp only at f1 f2 f3 ⊢
      cases gk with
      | zero =>
        obtain rfl : i = s.size := by omega
        have hdig : dig = true := by
          refine (unhide HH).1.dig ?_
          obtain ⟨j, hj, hn⟩ := (unhide HS).dig
          exact ⟨j, hj, hj, hn⟩
        subst hdig
        have HE := hide (show rfAll s = ⟨m, nd, nm, dp, dot, true, tr⟩ from (unhide HH).2.symm)
        have hiz : ¬ ((s.size : Int) < (s.size : Int)) := by omega
        have HV := hide (show rfExp (rfAll s) = if m = 0 then 0 else (if dot then dp else (nd : Int)) - nm by rw [unhide HE]; rfl)
        have HV2 := hide (show (rfAll s).m = m ∧ (rfAll s).tr = tr by rw [unhide HE]; exact ⟨rfl, rfl⟩)
        cases dot with
        | false =>
          by_cases hm : m = 0
          · subst hm
            go_wp2
            try rw [Exit.noGoto_ret]
            refine bodyPost_ret (results_tmp7 rfl _ _ _) rfl ?_
            rw [unhide HV, (unhide HV2).1, (unhide HV2).2]
            exact ⟨rfl, rfl⟩
          · rw [if_neg hm] at HV
            go_wp2
            try rw [Exit.noGoto_ret]
            refine bodyPost_ret (results_tmp7 rfl _ _ _) rfl ?_
            rw [unhide HV, (unhide HV2).1, (unhide HV2).2]
            exact ⟨rfl, rfl⟩
        | true =>
          by_cases hm : m = 0
          · subst hm
            go_wp2
            try rw [Exit.noGoto_ret]
            refine bodyPost_ret (results_tmp7 rfl _ _ _) rfl ?_
            rw [unhide HV, (unhide HV2).1, (unhide HV2).2]
            exact ⟨rfl, rfl⟩
          · rw [if_neg hm] at HV
            go_wp2
            try rw [Exit.noGoto_ret]
            refine bodyPost_ret (results_tmp7 rfl _ _ _) rfl ?_
            rw [unhide HV, (unhide HV2).1, (unhide HV2).2]
            exact ⟨rfl, rfl⟩
      | succ g =>
        have hi : i < s.size := by omega
        have hiz : (i : Int) < (s.size : Int) := by omega
        obtain ⟨x, hx⟩ : ∃ x : UInt8, s[i]'hi = x := ⟨_, rfl⟩
        have hxd := (unhide HS).all i hi
        have HK := hide ((unhide HH).1.step hi hxd)
        have HE := hide (show rfRun s g (i + 1) (rfStep ⟨m, nd, nm, dp, dot, dig, tr⟩ (s[i]'hi).toNat) = rfAll s by
          rw [← (unhide HH).2]
          conv => rhs; unfold rfRun
          rw [dif_pos hi])
        rw [hx] at hxd
        have HX := hide (congrArg UInt8.toNat hx)
        rw [unhide HX] at HK HE
        unfold dotDig at hxd
        have n95 : ¬ ((x.toNat : Int) = 95) := by omega
        by_cases c46 : x.toNat = 46
        · have hdot : dot = false := by
            cases hdt : dot with
            | false => rfl
            | true =>
              obtain ⟨j, hj, hjs, e⟩ := (unhide HH).1.dot hdt
              have := (unhide HS).one i j hi hjs (by rw [unhide HX]; exact c46) e
              omega
          subst hdot
          rw [show rfStep ⟨m, nd, nm, dp, false, dig, tr⟩ x.toNat = ⟨m, nd, nm, nd, true, dig, tr⟩ by unfold rfStep; rw [if_pos c46]] at HK HE
          have z46 : (x.toNat : Int) = 46 := by omega
          clear c46 hxd n95 HX
          go_wp2
          go_roundg g
          case measure => omega
          case rel => exact ⟨i + 1, ⟨m, nd, nm, nd, true, dig, tr⟩, by omega, rfl, rfl, by go_num, rfl, rfl, rfl, rfl, rfl, rfl, ⟨unhide HK, unhide HE⟩, rfl⟩
        · have z46 : ¬ ((x.toNat : Int) = 46) := by omega
          have a48 : (48 : Int) ≤ (x.toNat : Int) := by omega
          have a57 : (x.toNat : Int) ≤ 57 := by omega
          by_cases c48 : x.toNat = 48 ∧ nd = 0
          · rw [show rfStep ⟨m, nd, nm, dp, dot, dig, tr⟩ x.toNat = ⟨m, nd, nm, dp - 1, dot, true, tr⟩ by unfold rfStep; rw [if_neg c46, if_pos c48]] at HK HE
            obtain ⟨c48a, rfl⟩ := c48
            have z48 : (x.toNat : Int) = 48 := by omega
            clear c46 hxd n95 HX c48a a48 a57 z46
            go_wp2
            go_roundg g
            case measure => omega
            case rel => exact ⟨i + 1, ⟨m, 0, nm, dp - 1, dot, true, tr⟩, by omega, rfl, rfl, by go_num, rfl, rfl, rfl, rfl, rfl, rfl, ⟨unhide HK, unhide HE⟩, rfl⟩
          · by_cases c19 : nm < 19
            · rw [show rfStep ⟨m, nd, nm, dp, dot, dig, tr⟩ x.toNat = ⟨IntKind.u64.wrap (IntKind.u64.wrap (m * 10) + ((x.toNat : Int) - 48)), nd + 1, nm + 1, dp, dot, true, tr⟩ by unfold rfStep; rw [if_neg c46, if_neg c48, if_pos c19]] at HK HE
              have z19 : (nm : Int) < 19 := by omega
              by_cases e48 : x.toNat = 48
              · have z48 : (x.toNat : Int) = 48 := by omega
                have zn : ¬ ((nd : Int) = 0) := by omega
                rw [z48] at HK HE
                clear c46 hxd n95 HX a48 a57 z46 c48 e48 c19
                go_wp2
                go_roundg g
                case measure => omega
                case rel => exact ⟨i + 1, ⟨IntKind.u64.wrap (IntKind.u64.wrap (m * 10) + ((48 : Int) - 48)), nd + 1, nm + 1, dp, dot, true, tr⟩, by omega, by simp, rfl, by go_num, rfl, rfl, rfl, by go_num, by go_num, rfl, ⟨unhide HK, unhide HE⟩, rfl⟩
              · have z48 : ¬ ((x.toNat : Int) = 48) := by omega
                clear c46 hxd n95 HX c48 e48 c19
                go_wp2
                go_roundg g
                case measure => omega
                case rel => exact ⟨i + 1, ⟨IntKind.u64.wrap (IntKind.u64.wrap (m * 10) + ((x.toNat : Int) - 48)), nd + 1, nm + 1, dp, dot, true, tr⟩, by omega, rfl, rfl, by go_num, rfl, rfl, rfl, by go_num, by go_num, rfl, ⟨unhide HK, unhide HE⟩, rfl⟩
            · have z19 : ¬ ((nm : Int) < 19) := by omega
              by_cases e48 : x.toNat = 48
              · rw [show rfStep ⟨m, nd, nm, dp, dot, dig, tr⟩ x.toNat = ⟨m, nd + 1, nm, dp, dot, true, tr⟩ by unfold rfStep; rw [if_neg c46, if_neg c48, if_neg c19, if_pos e48]] at HK HE
                have z48 : (x.toNat : Int) = 48 := by omega
                have zn : ¬ ((nd : Int) = 0) := by omega
                clear c46 hxd n95 HX a48 a57 z46 c48 e48 c19
                go_wp2
                go_roundg g
                case measure => omega
                case rel => exact ⟨i + 1, ⟨m, nd + 1, nm, dp, dot, true, tr⟩, by omega, rfl, rfl, by go_num, rfl, rfl, rfl, by go_num, rfl, rfl, ⟨unhide HK, unhide HE⟩, rfl⟩
              · rw [show rfStep ⟨m, nd, nm, dp, dot, dig, tr⟩ x.toNat = ⟨m, nd + 1, nm, dp, dot, true, true⟩ by unfold rfStep; rw [if_neg c46, if_neg c48, if_neg c19, if_neg e48]] at HK HE
                have z48 : ¬ ((x.toNat : Int) = 48) := by omega
                clear c46 hxd n95 HX c48 e48 c19
                go_wp2
                go_roundg g
                case measure => omega
                case rel => exact ⟨i + 1, ⟨m, nd + 1, nm, dp, dot, true, true⟩, by omega, rfl, rfl, by go_num, rfl, rfl, rfl, by go_num, rfl, rfl, ⟨unhide HK, unhide HE⟩, rfl⟩
end Go.Proofs.Qxb6615497aGreatDoor
