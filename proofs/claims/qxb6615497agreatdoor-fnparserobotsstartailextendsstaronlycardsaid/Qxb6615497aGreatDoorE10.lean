import Derived.Test.Qxb6615497aGreatDoorE9
/- atof64: the walk. -/
namespace Go.Proofs.Qxb6615497aGreatDoor
open Go Go.RowKit

theorem extract_all (s : ByteArray) : s.extract 0 s.size = s := by simp

set_option maxHeartbeats 2000000 in
set_option maxRecDepth 100000 in
theorem atof64_any (s : ByteArray) (hs : NumText s) (w : World) (hT : FTabs w) :
    Calls Tryz.prog 121 #[.string s] w fun r w' => r = .returned (.tuple #[.float .f64 (atofF s).1, .int .i64 s.size, errV (atofF s).2]) ∧ Below w.heap.size w w' := by
  have hok := rfAll_ok hs
  have HS := hide (special_any s hs)
  have HR := hide (readFloat_any s hs)
  have hm : 0 ≤ (rfAll s).m ∧ (rfAll s).m < 18446744073709551616 := hok.m0
  have hp : -2000000 ≤ rfExp (rfAll s) ∧ rfExp (rfAll s) ≤ 2000000 := by
    have h1 := hok.dp
    have h2 := hok.nd
    have h3 := hok.nm
    have h4 := hs.len
    unfold rfExp rfDp
    split
    · omega
    · split <;> omega
  have HB : Hid (∀ w, Calls Tryz.prog 141 #[.bool false] w fun r w' => r = .returned (.int .u64 0) ∧ w' = w) := bool2U_any false
  have hd := frombits_run
  have copt := hT.opt
  have c11 := hT.info.mant
  have HT := hide hT
  have HN := hide hs
  have hor : bits BinOp.or .u64 0 9218868437227405312 = 9218868437227405312 := by decide
  have hor0 : bits BinOp.or .u64 0 0 = 0 := by decide
  unfold atofF
  clear hok hT hs
  generalize rfExp (rfAll s) = p at *
  generalize (rfAll s).m = m at *
  by_cases h0 : m = 0
  · subst h0
    rw [if_pos rfl]
    go_enter Tryz.func121, Tryz.ntmps121
    go_wp2_with (first | (go_at_call 132; refine (unhide HS _).mono ?_; rintro e w' ⟨rfl, hw⟩; obtain rfl := hw.symm) | (go_at_call 133; refine (unhide HR _).mono ?_; rintro e w' ⟨rfl, hw⟩; obtain rfl := hw.symm) | (go_at_call 141; refine (unhide HB _).mono ?_; rintro e w' ⟨rfl, hw⟩; obtain rfl := hw.symm))
    go_ret3
    exact ⟨rfl, Below.refl _ _⟩
  · rw [if_neg h0]
    by_cases h1 : 310 < p
    · rw [if_pos h1]
      go_enter Tryz.func121, Tryz.ntmps121
      go_wp2_with (first | (go_at_call 132; refine (unhide HS _).mono ?_; rintro e w' ⟨rfl, hw⟩; obtain rfl := hw.symm) | (go_at_call 133; refine (unhide HR _).mono ?_; rintro e w' ⟨rfl, hw⟩; obtain rfl := hw.symm) | (go_at_call 141; refine (unhide HB _).mono ?_; rintro e w' ⟨rfl, hw⟩; obtain rfl := hw.symm))
      go_ret3
      exact ⟨rfl, Below.refl _ _⟩
    · rw [if_neg h1]
      by_cases h2 : p < -345
      · rw [if_pos h2]
        go_enter Tryz.func121, Tryz.ntmps121
        go_wp2_with (first | (go_at_call 132; refine (unhide HS _).mono ?_; rintro e w' ⟨rfl, hw⟩; obtain rfl := hw.symm) | (go_at_call 133; refine (unhide HR _).mono ?_; rintro e w' ⟨rfl, hw⟩; obtain rfl := hw.symm) | (go_at_call 141; refine (unhide HB _).mono ?_; rintro e w' ⟨rfl, hw⟩; obtain rfl := hw.symm))
        go_ret3
        exact ⟨rfl, Below.refl _ _⟩
      · rw [if_neg h2]
        have HF := hide (fun d hd w (hT : FTabs w) => parseFloat64_any d p hd (by omega) w hT.pow10 (by have := hT.big; omega))
        cases ht : (rfAll s).tr
        · rw [ht] at HR
          rw [if_pos rfl]
          have HX := hide (exact_any m p hm.1 (by omega) w c11 (unhide HT).f10)
          cases hx : (exF m p).2
          · rw [hx] at HX
            rw [if_neg (by decide)]
            generalize (exF m p).1 = fx at *
            clear hx
            obtain ⟨F, hF⟩ : ∃ F : Int → Nat × Bool, F = fun d => pfF d p := ⟨_, rfl⟩
            rw [show pfF m p = F m by rw [hF]]
            replace HF : Hid (∀ d, 0 ≤ d ∧ d < 18446744073709551616 → ∀ w, FTabs w → Calls Tryz.prog 144 #[.int .u64 d, .int .i64 p, .int .u64 0] w fun r w' => r = .returned (.tuple #[.float .f64 (F d).1, errV (F d).2]) ∧ Below w.heap.size w w') := by rw [hF]; exact unhide HF
            clear hF
            go_enter Tryz.func121, Tryz.ntmps121
            go_wp2_with (first | (go_at_call 132; refine (unhide HS _).mono ?_; rintro e w' ⟨rfl, hw⟩; obtain rfl := hw.symm) | (go_at_call 133; refine (unhide HR _).mono ?_; rintro e w' ⟨rfl, hw⟩; obtain rfl := hw.symm) | (go_at_call 141; refine (unhide HB _).mono ?_; rintro e w' ⟨rfl, hw⟩; obtain rfl := hw.symm) | (go_at_call 143; refine (unhide HX).mono ?_; rintro e w' ⟨rfl, hw⟩; obtain rfl := hw.symm) | (go_at_call 144; first | (have hq := unhide HB1; clear hq; refine (unhide HF _ (wrapU_range _) _ ((unhide HT).stay (Nat.le_refl _) (unhide HB1))).mono ?_; rintro e w2 ⟨rfl, hb2⟩; have HZ := hide (unhide HB1).size; have HB2 := hide (hb2.mono (unhide HZ)); have HZ2 := hide hb2.size; clear hb2) | (refine (unhide HF _ hm _ (unhide HT)).mono ?_; rintro e w1 ⟨rfl, hb1⟩; have HB1 := hide hb1; clear hb1)))
            go_ret3
            exact ⟨rfl, unhide HB1⟩
          · rw [hx] at HX
            rw [if_pos rfl]
            generalize (exF m p).1 = fx at *
            clear hx
            go_enter Tryz.func121, Tryz.ntmps121
            go_wp2_with (first | (go_at_call 132; refine (unhide HS _).mono ?_; rintro e w' ⟨rfl, hw⟩; obtain rfl := hw.symm) | (go_at_call 133; refine (unhide HR _).mono ?_; rintro e w' ⟨rfl, hw⟩; obtain rfl := hw.symm) | (go_at_call 141; refine (unhide HB _).mono ?_; rintro e w' ⟨rfl, hw⟩; obtain rfl := hw.symm) | (go_at_call 143; refine (unhide HX).mono ?_; rintro e w' ⟨rfl, hw⟩; obtain rfl := hw.symm))
            go_ret3
            exact ⟨rfl, Below.refl _ _⟩
        · rw [ht] at HR
          rw [if_neg (by decide)]
          obtain ⟨F, hF⟩ : ∃ F : Int → Nat × Bool, F = fun d => pfF d p := ⟨_, rfl⟩
          rw [show pfF m p = F m by rw [hF], show pfF (IntKind.u64.wrap (m + 1)) p = F (IntKind.u64.wrap (m + 1)) by rw [hF]]
          replace HF : Hid (∀ d, 0 ≤ d ∧ d < 18446744073709551616 → ∀ w, FTabs w → Calls Tryz.prog 144 #[.int .u64 d, .int .i64 p, .int .u64 0] w fun r w' => r = .returned (.tuple #[.float .f64 (F d).1, errV (F d).2]) ∧ Below w.heap.size w w') := by rw [hF]; exact unhide HF
          clear hF ht
          cases he : (FloatKind.f64.format.order (F m).1 (F (IntKind.u64.wrap (m + 1))).1 == some .eq)
          · rw [if_neg (by decide)]
            have hex := extract_all s
            have HSet := hide (fun a w h => set_any a s (unhide HN) w h)
            have HFl := hide (floatBits_any (stOf s) (stOf_good (unhide HN)))
            unfold slowF
            generalize stOf s = S at *
            generalize fbBits S = B at *
            obtain ⟨b, ov⟩ := B
            dsimp only at HFl ⊢
            go_enter Tryz.func121, Tryz.ntmps121
            go_upto_region 28 with (first | (go_at_call 132; refine (unhide HS _).mono ?_; rintro e w' ⟨rfl, hw⟩; obtain rfl := hw.symm) | (go_at_call 133; refine (unhide HR _).mono ?_; rintro e w' ⟨rfl, hw⟩; obtain rfl := hw.symm) | (go_at_call 141; refine (unhide HB _).mono ?_; rintro e w' ⟨rfl, hw⟩; obtain rfl := hw.symm) | (go_at_call 144; first | (have hq := unhide HB1; clear hq; refine (unhide HF _ (wrapU_range _) _ ((unhide HT).stay (Nat.le_refl _) (unhide HB1))).mono ?_; rintro e w2 ⟨rfl, hb2⟩; have HZ := hide (unhide HB1).size; have HB2 := hide (hb2.mono (unhide HZ)); have HZ2 := hide hb2.size; clear hb2) | (refine (unhide HF _ hm _ (unhide HT)).mono ?_; rintro e w1 ⟨rfl, hb1⟩; have HB1 := hide hb1; clear hb1)))
            have HB12 := hide ((unhide HB1).trans (unhide HB2))
            have HT2 := hide ((unhide HT).stay (Nat.le_refl _) (unhide HB12))
            have HZ3 := hide (Nat.le_trans (unhide HZ) (unhide HZ2))
            go_upto_region 29 with fail
            have HI2 := hide (show In w2.heap.size false st0 (w2.alloc (.cells Tryz.zeroCells187 187)) from dec_new w2)
            have HB5 := hide ((Below.refl w2.heap.size w2).alloc (Nat.le_refl _) (.cells Tryz.zeroCells187 187))
            clear HF HS HR HB copt c11 he
            generalize w2.alloc (.cells Tryz.zeroCells187 187) = W at *
            have HT2c := hide (unhide HT2).cheats
            have HT2p := hide (unhide HT2).powtab
            have HT2i := hide (unhide HT2).info
            clear HT2
            generalize w2.heap.size = A at *
            have HSe := hide (unhide HSet A W (unhide HI2))
            clear HI2
            cases ov
            · skip
              go_wp2_with (first | (go_at_call 139; refine (unhide HSe).mono ?_; rintro e w3 ⟨rfl, hi3, hb3⟩; have HI3 := hide hi3; have HB3 := hide ((unhide HB5).trans hb3); clear hi3 hb3) | (go_at_call 140; refine (unhide HFl A 11 _ (unhide HI3) ((unhide HT2c).below (unhide HB3)) ((unhide HT2p).below (unhide HB3)) ((unhide HT2i).stay (unhide HB3))).mono ?_; rintro e w4 ⟨rfl, hb4⟩; have HB4 := hide ((unhide HB3).trans hb4); clear hb4))
              go_ret3
              exact ⟨rfl, (unhide HB12).trans ((unhide HB4).mono (unhide HZ3))⟩
            · skip
              go_wp2_with (first | (go_at_call 139; refine (unhide HSe).mono ?_; rintro e w3 ⟨rfl, hi3, hb3⟩; have HI3 := hide hi3; have HB3 := hide ((unhide HB5).trans hb3); clear hi3 hb3) | (go_at_call 140; refine (unhide HFl A 11 _ (unhide HI3) ((unhide HT2c).below (unhide HB3)) ((unhide HT2p).below (unhide HB3)) ((unhide HT2i).stay (unhide HB3))).mono ?_; rintro e w4 ⟨rfl, hb4⟩; have HB4 := hide ((unhide HB3).trans hb4); clear hb4))
              go_ret3
              exact ⟨rfl, (unhide HB12).trans ((unhide HB4).mono (unhide HZ3))⟩
          · rw [if_pos rfl]
            go_enter Tryz.func121, Tryz.ntmps121
            go_wp2_with (first | (go_at_call 132; refine (unhide HS _).mono ?_; rintro e w' ⟨rfl, hw⟩; obtain rfl := hw.symm) | (go_at_call 133; refine (unhide HR _).mono ?_; rintro e w' ⟨rfl, hw⟩; obtain rfl := hw.symm) | (go_at_call 141; refine (unhide HB _).mono ?_; rintro e w' ⟨rfl, hw⟩; obtain rfl := hw.symm) | (go_at_call 144; first | (have hq := unhide HB1; clear hq; refine (unhide HF _ (wrapU_range _) _ ((unhide HT).stay (Nat.le_refl _) (unhide HB1))).mono ?_; rintro e w2 ⟨rfl, hb2⟩; have HZ := hide (unhide HB1).size; have HB2 := hide (hb2.mono (unhide HZ)); have HZ2 := hide hb2.size; clear hb2) | (refine (unhide HF _ hm _ (unhide HT)).mono ?_; rintro e w1 ⟨rfl, hb1⟩; have HB1 := hide hb1; clear hb1)))
            go_ret3
            exact ⟨rfl, (unhide HB1).trans (unhide HB2)⟩
end Go.Proofs.Qxb6615497aGreatDoor
