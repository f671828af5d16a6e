import Derived.Test.Qxb6606071aDoorD12
/- floatBits at a number with a sign. -/
namespace Go.Proofs.Qxb6606071aDoor.Fl
open Go Go.RowKit

set_option maxHeartbeats 4000000 in
set_option maxRecDepth 1000000 in
theorem fb_mainN (a G : Nat) {S : Dst} (b : Int) (ov : Bool) (hans : fbAns S = (b, ov)) (hS : Good S) (hd1 : S.dp ≤ 310) (hd2 : -330 ≤ S.dp) (w : World) (h : In a true S w) (hC : Cheats a w) (hP : PowTab a w) (hI : Info G a w) :
    Calls Tryd.prog 54 #[.pointer (some ⟨a, 0, none⟩), .pointer (some ⟨G, 0, none⟩)] w fun e w' => e = .returned (.tuple #[.int .u64 (bits BinOp.or .u64 b 9223372036854775808), .bool ov]) ∧ Below a w w' := by
  have HAns := hide hans
  have cn := h.nd
  have cp := h.dp
  have hn := hS.n1
  have hnz : ¬ ((S.nd : Int) = 0) := by omega
  have hz1 : ¬ ((310 : Int) < S.dp) := by omega
  have hz2 : ¬ (S.dp < (-330 : Int)) := by omega
  have H0 := hide (And.intro hS (And.intro h (And.intro hC (And.intro hP hI))))
  clear h hC hP hI hans hS
  go_enter Tryd.func54, Tryd.ntmps54
  go_wp2
  refine wp_scope_two'' 0 1 rfl rfl ?_
  intro J1 J2 HJ1 HJ2
  go_wp2
  rw [show ((S.nd : Int) == 0) = false from by simp; omega]
  clear hnz hn cn cp
  go_loopg [6, 8] 3200 (fun gf s6 s8 wx => ∃ (R : Dst) (x : Int), s6 = .int .i64 x ∧ 0 ≤ x ∧ x ≤ 27 * (3200 - (gf : Int)) ∧ 10 * R.dp + (R.D 0 - 48) ≤ gf ∧ R.dp ≤ 310 ∧ -330 ≤ R.dp ∧ gf ≤ 3200 ∧
    Hid (Good R ∧ fbR gf R x = fbR 3200 S 0 ∧ In a true R wx ∧ Below a w wx))
  case atStart =>
    have hl := lead_le (unhide H0).1
    exact ⟨S, 0, rfl, by omega, by omega, by omega, by omega, by omega, by omega, (unhide H0).1, rfl, (unhide H0).2.1, Below.refl _ _⟩
  case round =>
    obtain ⟨R, x, rfl, hx0, hx1, hm, hr1, hr2, hgf, HH⟩ := hrel
    have cp := (unhide HH).2.2.1.dp
    obtain ⟨T, oT, cap, hT, h13, cT, cK⟩ := ((unhide H0).2.2.2.1.below (unhide HH).2.2.2).tab
    by_cases hpos : 0 < R.dp
    · cases gk with
      | zero => have := (unhide HH).1.lead; omega
      | succ g =>
        have hst := stepR (unhide HH).1
        obtain ⟨dn, hdn⟩ : ∃ dn : Nat, R.dp = dn := ⟨R.dp.toNat, by omega⟩
        have htn : R.dp.toNat = dn := by omega
        rw [htn] at hst
        obtain ⟨s1, s2, s3, s4⟩ := hst
        have hp := powOf_range dn
        have HE := hide (show fbR g (rsS (powOf dn) R) (x + powOf dn) = fbR 3200 S 0 by
          rw [← (unhide HH).2.1]
          conv => rhs; unfold fbR
          rw [if_pos hpos, htn])
        have HG := hide s1
        have HC := hide (fun q => shiftR_any 0 (powOf dn) hp.1 (by omega) (by omega) a true (unhide HH).1 (by omega) (wr.drewN q) ((unhide HH).2.2.1.drewN q))
        rw [hdn] at cp
        have hposz : (0 : Int) < (dn : Int) := by omega
        by_cases h9 : 9 ≤ dn
        · have h9z : (9 : Int) ≤ (dn : Int) := by omega
          rw [powOf_high h9] at *
          clear cK hpos
          go_wp2
          go_quiet (fail)
          go_wp2_with (go_at_call 75; refine (unhide HC _).mono ?_; rintro e w' ⟨rfl, h6, hb6⟩)
          go_roundg g
          case measure => omega
          case rel => exact ⟨rsS 27 R, x + 27, rfl, by omega, by omega, by omega, by omega, by omega, by omega, unhide HG, unhide HE, h6, (belowDrewQ (unhide HH).2.2.2 _).trans hb6⟩
        · have h9z : ¬ ((9 : Int) ≤ (dn : Int)) := by omega
          have h9l : (dn : Int) < 9 := by omega
          have ck := cK dn (by omega)
          clear cK hpos
          generalize hpw : powOf dn = pw at *
          clear hpw
          go_wp2
          go_quiet (fail)
          go_wp2
          go_quiet (fail)
          go_wp2_with (go_at_call 75; refine (unhide HC _).mono ?_; rintro e w' ⟨rfl, h6, hb6⟩)
          go_roundg g
          case measure => omega
          case rel => exact ⟨rsS pw R, x + pw, rfl, by omega, by omega, by omega, by omega, by omega, by omega, unhide HG, unhide HE, h6, (belowDrewQ (unhide HH).2.2.2 _).trans hb6⟩
    · have hres : fbR 3200 S 0 = (R, x) := by
        rw [← (unhide HH).2.1]
        cases gk with
        | zero => rfl
        | succ g => unfold fbR; rw [if_neg hpos]
      have HR1 := hide hres
      have HQ := hide (And.intro (unhide HH).1 (And.intro (unhide HH).2.2.1 (unhide HH).2.2.2))
      clear hres HH cT cK hT h13
      go_wp2
      clear cp
      go_loopg [6, 9] 3400 (fun gf s6 s9 wx => ∃ (L : Dst) (y : Int), s6 = .int .i64 y ∧ y ≤ x ∧ x - 27 * (3400 - (gf : Int)) ≤ y ∧ -10 * L.dp + (57 - L.D 0) ≤ gf ∧ L.dp ≤ 20 ∧ -330 ≤ L.dp ∧ gf ≤ 3400 ∧
        Hid (Good L ∧ fbL gf L y = fbL 3400 R x ∧ In a true L wx ∧ Below a w wx))
      case atStart =>
        have hl := (unhide HQ).1.lead
        exact ⟨R, x, rfl, by omega, by omega, by omega, by omega, by omega, by omega, (unhide HQ).1, rfl, (unhide HQ).2.1, (unhide HQ).2.2⟩
      case round =>
        obtain ⟨L, y, rfl, hy1, hy2, hm2, hl1, hl2, hgf2, HK⟩ := hrel
        have cp := (unhide HK).2.2.1.dp
        have cd0 := (unhide HK).2.2.1.dig 0 (by omega)
        obtain ⟨T, oT, cap, hT, h13, cT, cK⟩ := ((unhide H0).2.2.2.1.below (unhide HK).2.2.2).tab
        have hD57 := lead_le (unhide HK).1
        have hD49 := (unhide HK).1.lead
        by_cases hgo : L.dp < 0 ∨ (L.dp = 0 ∧ L.D 0 < 53)
        · cases gk with
          | zero => omega
          | succ g =>
            have hst := stepL (unhide HK).1
            obtain ⟨dn, hdn⟩ : ∃ dn : Nat, L.dp = -(dn : Int) := ⟨(-L.dp).toNat, by omega⟩
            have htn : (-L.dp).toNat = dn := by omega
            rw [htn] at hst
            obtain ⟨s1, s2, s3, s4⟩ := hst
            have hp := powOf_range dn
            have HE := hide (show fbL g (lsS (powOf dn) L) (y - powOf dn) = fbL 3400 R x by
              rw [← (unhide HK).2.1]
              conv => rhs; unfold fbL
              rw [if_pos hgo, htn])
            have HG := hide s1
            have HC := hide (fun q => shiftL_any hp.1 (by omega) a true (unhide HK).1 (by omega) (wr.drewN q) ((unhide HK).2.2.1.drewN q) ((unhide H0).2.2.1.below (belowDrewQ (unhide HK).2.2.2 q)))
            rw [hdn] at cp
            by_cases h9 : 9 ≤ dn
            · have h9z : (9 : Int) ≤ (dn : Int) := by omega
              have hneg : -(dn : Int) < 0 := by omega
              rw [powOf_high h9] at *
              clear cK hgo
              go_wp2
              go_quiet (fail)
              go_wp2_with (go_at_call 75; refine (unhide HC _).mono ?_; rintro e w' ⟨rfl, h6, hb6⟩)
              go_roundg g
              case measure => omega
              case rel => exact ⟨lsS 27 L, y - 27, rfl, by omega, by omega, by omega, by omega, by omega, by omega, unhide HG, unhide HE, h6, (belowDrewQ (unhide HK).2.2.2 _).trans hb6⟩
            · have ck := cK dn (by omega)
              have h9z : ¬ ((9 : Int) ≤ (dn : Int)) := by omega
              have h9l : (dn : Int) < 9 := by omega
              by_cases hd0 : dn = 0
              · subst hd0
                rw [Nat.add_zero] at ck
                have hD : L.D 0 < 53 := by omega
                have cp0 : wr.cell? ⟨a, 801, none⟩ = some (.int .i64 0) := cp
                clear cK hgo cp
                generalize hpw : powOf 0 = pw at *
                clear hpw
                go_wp2
                go_quiet (fail)
                go_wp2
                go_quiet (fail)
                go_wp2_with (go_at_call 75; refine (unhide HC _).mono ?_; rintro e w' ⟨rfl, h6, hb6⟩)
                go_roundg g
                case measure => omega
                case rel => exact ⟨lsS pw L, y - pw, rfl, by omega, by omega, by omega, by omega, by omega, by omega, unhide HG, unhide HE, h6, (belowDrewQ (unhide HK).2.2.2 _).trans hb6⟩
              · have hneg : -(dn : Int) < 0 := by omega
                have hn0 : (0 : Int) ≤ (dn : Int) := by omega
                clear cK hgo
                generalize hpw : powOf dn = pw at *
                clear hpw
                go_wp2
                go_quiet (fail)
                go_wp2
                go_quiet (fail)
                go_wp2_with (go_at_call 75; refine (unhide HC _).mono ?_; rintro e w' ⟨rfl, h6, hb6⟩)
                go_roundg g
                case measure => omega
                case rel => exact ⟨lsS pw L, y - pw, rfl, by omega, by omega, by omega, by omega, by omega, by omega, unhide HG, unhide HE, h6, (belowDrewQ (unhide HK).2.2.2 _).trans hb6⟩
        · have hres2 : fbL 3400 R x = (L, y) := by
            rw [← (unhide HK).2.1]
            cases gk with
            | zero => rfl
            | succ g => unfold fbL; rw [if_neg hgo]
          have HR2 := hide hres2
          have HM := hide (And.intro (unhide HK).1 (And.intro (unhide HK).2.2.1 (unhide HK).2.2.2))
          have hI := (unhide H0).2.2.2.2.stay (unhide HK).2.2.2
          have i1 := hI.mant
          have i2 := hI.expb
          have i3 := hI.bias
          clear hres2 HK cT cK hT h13 hI
          go_upto_region 18 with fail
          go_cut [80] from 61 to 79 (fun v wx => v = .bool false ∧ wx = wr)
          case first =>
            have hz1 : ¬ (L.dp < 0) := by omega
            by_cases hz : L.dp = 0
            · rw [hz] at cp
              have hz2 : ¬ (L.D 0 < 53) := by omega
              go_wp2
              go_meet
              exact ⟨rfl, rfl⟩
            · go_wp2
              go_meet
              exact ⟨rfl, rfl⟩
          case rest =>
            obtain ⟨rfl, rfl⟩ := hcut
            clear cd0 cp
            go_upto_if 111 with fail
            go_cut [6, 10] from 111 to 125 (fun s6 s10 wx => ∃ (M : Dst) (z : Int), s6 = .int .i64 z ∧ -1022 ≤ z ∧ z ≤ 100000 ∧ M.dp ≤ 100000 ∧ -100000 ≤ M.dp ∧ Hid (Good M ∧ fbNorm L y = (M, z) ∧ In a true M wx ∧ Below a w wx))
            case first =>
              by_cases hlo : y - 1 < -1022
              · obtain ⟨n, hn⟩ : ∃ n : Nat, -1022 - (y - 1) = n := ⟨(-1022 - (y - 1)).toNat, by omega⟩
                obtain rfl : y = -1021 - n := by omega
                have hn1 : 1 ≤ n := by omega
                have hrg := rsMany_good (n / 60) n L hn1 (by omega) (unhide HM).1
                have HF := hide (show fbNorm L (-1021 - n) = (rsMany (n / 60) n L, -1022) by
                  unfold fbNorm
                  rw [if_pos (by omega), show (-1022 - (-1021 - (n : Int) - 1)).toNat = n by omega])
                have HG := hide hrg.1
                have hb1 := hrg.2.1
                have hb2 := hrg.2.2
                have HC := hide (shiftR_any (n / 60) n hn1 (by omega) (by omega) a true (unhide HM).1 (by omega) wc (unhide HM).2.1)
                clear hrg
                have hlz : -1021 - (n : Int) - 1 < -1022 := by omega
                go_wp2_with (go_at_call 75; refine (unhide HC).mono ?_; rintro e w' ⟨rfl, h6, hb6⟩)
                go_meet
                exact ⟨rsMany (n / 60) n L, -1022, by congr 1; omega, by omega, by omega, by omega, by omega, unhide HG, unhide HF, h6, (unhide HM).2.2.trans hb6⟩
              · have HF := hide (show fbNorm L y = (L, y - 1) by unfold fbNorm; rw [if_neg hlo])
                go_wp2
                go_meet
                exact ⟨L, y - 1, rfl, by omega, by omega, by omega, by omega, (unhide HM).1, unhide HF, (unhide HM).2.1, (unhide HM).2.2⟩
            case rest =>
              obtain ⟨M, z, rfl, hz1, hz2, hM1, hM2, HN⟩ := hcut
              clear i1 i2 i3
              have hI := (unhide H0).2.2.2.2.stay (unhide HN).2.2.2
              have i1 := hI.mant
              have i2 := hI.expb
              have i3 := hI.bias
              have cg := (unhide HN).2.2.1.neg
              have HAE := hide (show fbEnd M z = (b, ov) by rw [← fbAns_of (unhide HR1) (unhide HR2) (unhide HN).2.1]; exact unhide HAns)
              clear hI
              by_cases hov : 2047 ≤ z + 1023
              · have HV := hide (show (ovBits, true) = (b, ov) by have h := unhide HAE; unfold fbEnd at h; rw [if_pos hov] at h; exact h)
                go_wp2
                go_quiet (fail)
                go_wp2
                go_step3
                refine .inr ⟨rfl, unhide HJ2 _ _ ?_⟩
                go_wp2
                go_quiet (fail)
                go_wp2
                go_step3
                go_wp2
                go_quiet (fail)
                go_wp2
                go_quiet (fail)
                go_wp2
                rw [Exit.noGoto_ret]
                go_ret2
                obtain ⟨rfl, rfl⟩ := Prod.mk.inj (unhide HV)
                exact ⟨rfl, belowDrewQ (belowDrewQ (unhide HN).2.2.2 _) _⟩
              · have hG := left_good (k := 53) (by decide) (by decide) (unhide HN).1
                have HC1 := hide (fun q => shiftL_any (k := 53) (by decide) (by decide) a true (unhide HN).1 ⟨hM2, hM1⟩ (wc.drewN q) ((unhide HN).2.2.1.drewN q) ((unhide H0).2.2.1.below (belowDrewQ (unhide HN).2.2.2 q)))
                have HC2 := hide (rnd_calls (lsS 53 M) hG.1 a true)
                obtain ⟨hr0, hr1⟩ := rnd_range (lsS 53 M) hG.1
                have HV := hide (show (if rnd (lsS 53 M) = 9007199254740992 then (if 2047 ≤ z + 1 + 1023 then (ovBits, true) else (packBits 4503599627370496 (z + 1), false))
                    else if bits BinOp.and .u64 (rnd (lsS 53 M)) 4503599627370496 = 0 then (packBits (rnd (lsS 53 M)) (-1023), false)
                    else (packBits (rnd (lsS 53 M)) z, false)) = (b, ov) by have h := unhide HAE; unfold fbEnd at h; rw [if_neg hov] at h; exact h)
                clear hG HAE
                generalize rnd (lsS 53 M) = m at *
                have hb52 : bits BinOp.and .u64 4503599627370496 4503599627370496 = 4503599627370496 := by decide
                go_wp2
                go_quiet (fail)
                go_wp2_with (go_at_call 75; refine (unhide HC1 _).mono ?_; rintro e w' ⟨rfl, h6, hb6⟩)
                have HB6 := hide ((belowDrewQ (unhide HN).2.2.2 _).trans hb6)
                have HI6 := hide h6
                have hI := (unhide H0).2.2.2.2.stay (unhide HB6)
                have k1 := hI.mant
                have k2 := hI.expb
                have k3 := hI.bias
                have kg := (unhide HI6).neg
                clear hI h6 hb6 i1 i2 i3 cg HC1
                by_cases hm : m = 9007199254740992
                · subst hm
                  rw [if_pos rfl] at HV
                  by_cases hov2 : 2047 ≤ z + 1 + 1023
                  · rw [if_pos hov2] at HV
                    go_wp2_with (go_at_call 76; refine (unhide HC2 _ (unhide HI6)).mono ?_; rintro e w'' ⟨rfl, q5, rfl⟩; have hI := (unhide H0).2.2.2.2.stay (belowDrewQ (unhide HB6) q5); have l1 := hI.mant; have l2 := hI.expb; have l3 := hI.bias; have lg := ((unhide HI6).drewN q5).neg; clear hI)
                    go_quiet (fail)
                    go_wp2
                    go_step3
                    refine .inr ⟨rfl, unhide HJ2 _ _ ?_⟩
                    go_wp2
                    go_quiet (fail)
                    go_wp2
                    go_step3
                    go_wp2
                    go_quiet (fail)
                    go_wp2
                    go_quiet (fail)
                    go_wp2
                    rw [Exit.noGoto_ret]
                    go_ret2
                    obtain ⟨rfl, rfl⟩ := Prod.mk.inj (unhide HV)
                    exact ⟨rfl, belowDrewQ (belowDrewQ (unhide HB6) _) _⟩
                  · rw [if_neg hov2] at HV
                    go_wp2_with (go_at_call 76; refine (unhide HC2 _ (unhide HI6)).mono ?_; rintro e w'' ⟨rfl, q5, rfl⟩; have hI := (unhide H0).2.2.2.2.stay (belowDrewQ (unhide HB6) q5); have l1 := hI.mant; have l2 := hI.expb; have l3 := hI.bias; have lg := ((unhide HI6).drewN q5).neg; clear hI)
                    go_quiet (fail)
                    go_wp2
                    go_step3
                    refine .inl ⟨rfl, unhide HJ1 _ _ ?_⟩
                    go_wp2
                    go_quiet (fail)
                    go_wp2
                    go_quiet (fail)
                    go_wp2
                    rw [Exit.noGoto_ret]
                    go_ret2
                    obtain ⟨rfl, rfl⟩ := Prod.mk.inj (unhide HV)
                    exact ⟨rfl, belowDrewQ (belowDrewQ (unhide HB6) _) _⟩
                · rw [if_neg hm] at HV
                  by_cases hbz : bits BinOp.and .u64 m 4503599627370496 = 0
                  · rw [if_pos hbz] at HV
                    go_wp2_with (go_at_call 76; refine (unhide HC2 _ (unhide HI6)).mono ?_; rintro e w'' ⟨rfl, q5, rfl⟩; have hI := (unhide H0).2.2.2.2.stay (belowDrewQ (unhide HB6) q5); have l1 := hI.mant; have l2 := hI.expb; have l3 := hI.bias; have lg := ((unhide HI6).drewN q5).neg; clear hI)
                    go_step3
                    refine .inl ⟨rfl, unhide HJ1 _ _ ?_⟩
                    go_wp2
                    go_quiet (fail)
                    go_wp2
                    go_quiet (fail)
                    go_wp2
                    rw [Exit.noGoto_ret]
                    go_ret2
                    obtain ⟨rfl, rfl⟩ := Prod.mk.inj (unhide HV)
                    exact ⟨rfl, belowDrewQ (belowDrewQ (unhide HB6) _) _⟩
                  · rw [if_neg hbz] at HV
                    go_wp2_with (go_at_call 76; refine (unhide HC2 _ (unhide HI6)).mono ?_; rintro e w'' ⟨rfl, q5, rfl⟩; have hI := (unhide H0).2.2.2.2.stay (belowDrewQ (unhide HB6) q5); have l1 := hI.mant; have l2 := hI.expb; have l3 := hI.bias; have lg := ((unhide HI6).drewN q5).neg; clear hI)
                    go_step3
                    refine .inl ⟨rfl, unhide HJ1 _ _ ?_⟩
                    go_wp2
                    go_quiet (fail)
                    go_wp2
                    go_quiet (fail)
                    go_wp2
                    rw [Exit.noGoto_ret]
                    go_ret2
                    obtain ⟨rfl, rfl⟩ := Prod.mk.inj (unhide HV)
                    exact ⟨rfl, belowDrewQ (belowDrewQ (unhide HB6) _) _⟩

set_option maxHeartbeats 4000000 in
set_option maxRecDepth 1000000 in
theorem fb_nilN (a G : Nat) {S : Dst} (hn : S.nd = 0) (w : World) (h : In a true S w) (hI : Info G a w) :
    Calls Tryd.prog 54 #[.pointer (some ⟨a, 0, none⟩), .pointer (some ⟨G, 0, none⟩)] w fun e w' => e = .returned (.tuple #[.int .u64 (bits BinOp.or .u64 (packBits 0 (-1023)) 9223372036854775808), .bool false]) ∧ Below a w w' := by
  have cn := h.nd
  rw [hn] at cn
  have cn0 : w.cell? ⟨a, 800, none⟩ = some (.int .i64 0) := cn
  have i1 := hI.mant
  have i2 := hI.expb
  have i3 := hI.bias
  have cg := h.neg
  clear cn h hI
  go_enter Tryd.func54, Tryd.ntmps54
  go_wp2
  refine wp_scope_two'' 0 1 rfl rfl ?_
  intro J1 J2 HJ1 HJ2
  go_wp2
  go_step3
  refine .inl ⟨rfl, unhide HJ1 _ _ ?_⟩
  go_wp2
  go_quiet (fail)
  go_wp2
  go_quiet (fail)
  go_wp2
  rw [Exit.noGoto_ret]
  go_ret2
  exact ⟨rfl, belowDrewQ (belowDrewQ (Below.refl _ _) _) _⟩

set_option maxHeartbeats 4000000 in
set_option maxRecDepth 1000000 in
theorem fb_ovN (a G : Nat) {S : Dst} (hn : S.nd ≠ 0) (hd : 310 < S.dp) (w : World) (h : In a true S w) (hI : Info G a w) :
    Calls Tryd.prog 54 #[.pointer (some ⟨a, 0, none⟩), .pointer (some ⟨G, 0, none⟩)] w fun e w' => e = .returned (.tuple #[.int .u64 (bits BinOp.or .u64 ovBits 9223372036854775808), .bool true]) ∧ Below a w w' := by
  have cn := h.nd
  have cp := h.dp
  have hnz : ¬ ((S.nd : Int) = 0) := by omega
  have i1 := hI.mant
  have i2 := hI.expb
  have i3 := hI.bias
  have cg := h.neg
  clear h hI
  go_enter Tryd.func54, Tryd.ntmps54
  go_wp2
  refine wp_scope_two'' 0 1 rfl rfl ?_
  intro J1 J2 HJ1 HJ2
  go_wp2
  go_step3
  refine .inr ⟨rfl, unhide HJ2 _ _ ?_⟩
  go_wp2
  go_quiet (fail)
  go_wp2
  go_step3
  go_wp2
  go_quiet (fail)
  go_wp2
  go_quiet (fail)
  go_wp2
  rw [Exit.noGoto_ret]
  go_ret2
  exact ⟨rfl, belowDrewQ (belowDrewQ (Below.refl _ _) _) _⟩

set_option maxHeartbeats 4000000 in
set_option maxRecDepth 1000000 in
theorem fb_zeroN (a G : Nat) {S : Dst} (hn : S.nd ≠ 0) (hd : S.dp < -330) (w : World) (h : In a true S w) (hI : Info G a w) :
    Calls Tryd.prog 54 #[.pointer (some ⟨a, 0, none⟩), .pointer (some ⟨G, 0, none⟩)] w fun e w' => e = .returned (.tuple #[.int .u64 (bits BinOp.or .u64 (packBits 0 (-1023)) 9223372036854775808), .bool false]) ∧ Below a w w' := by
  have cn := h.nd
  have cp := h.dp
  have hnz : ¬ ((S.nd : Int) = 0) := by omega
  have hd2 : ¬ (310 < S.dp) := by omega
  have i1 := hI.mant
  have i2 := hI.expb
  have i3 := hI.bias
  have cg := h.neg
  clear h hI
  go_enter Tryd.func54, Tryd.ntmps54
  go_wp2
  refine wp_scope_two'' 0 1 rfl rfl ?_
  intro J1 J2 HJ1 HJ2
  go_wp2
  go_step3
  refine .inl ⟨rfl, unhide HJ1 _ _ ?_⟩
  go_wp2
  go_quiet (fail)
  go_wp2
  go_quiet (fail)
  go_wp2
  rw [Exit.noGoto_ret]
  go_ret2
  exact ⟨rfl, belowDrewQ (belowDrewQ (Below.refl _ _) _) _⟩

/-- floatBits at every decimal that is zero or in order. -/
theorem floatBits_anyN (S : Dst) (hS : S.nd ≠ 0 → Good S) (a G : Nat) (w : World) (h : In a true S w) (hC : Cheats a w) (hP : PowTab a w) (hI : Info G a w) :
    Calls Tryd.prog 54 #[.pointer (some ⟨a, 0, none⟩), .pointer (some ⟨G, 0, none⟩)] w fun e w' => e = .returned (.tuple #[.int .u64 (bits BinOp.or .u64 (fbBits S).1 9223372036854775808), .bool (fbBits S).2]) ∧ Below a w w' := by
  unfold fbBits
  by_cases h0 : S.nd = 0
  · rw [if_pos h0]; exact fb_nilN a G h0 w h hI
  · rw [if_neg h0]
    by_cases h1 : 310 < S.dp
    · rw [if_pos h1]; exact fb_ovN a G h0 h1 w h hI
    · rw [if_neg h1]
      by_cases h2 : S.dp < -330
      · rw [if_pos h2]; exact fb_zeroN a G h0 h2 w h hI
      · rw [if_neg h2]; exact fb_mainN a G _ _ rfl (hS h0) (by omega) (by omega) w h hC hP hI
end Go.Proofs.Qxb6606071aDoor.Fl
