import Derived.Test.Qxb6606071aDoorE9
import Derived.Test.Qxb6606071aDoorE5b
/- atof64: the walk. -/
namespace Go.Proofs.Qxb6606071aDoor.Fl
open Go Go.RowKit

theorem extract_all (s : ByteArray) : s.extract 0 s.size = s := by simp

/-- exponent and decimal as the text gives them where it bears no exponent. -/
def Plainly (s : ByteArray) (a m : Nat) (p : Int) (S : Dst) : Prop := m = s.size → p = rfExp (rfAll s a m) 0 ∧ S = stOf s a m 0

theorem read_ans (s : ByteArray) (a m : Nat) (neg : Bool) (hs : NumText s a m neg) (w : World) :
    Calls Tryd.prog 47 #[.string s] w fun e w' => (∃ p : Int, Hid ((-2000000 ≤ p ∧ p ≤ 2000000) ∧ (m = s.size → p = rfExp (rfAll s a m) 0)) ∧ e = .returned (.tuple #[.int .u64 (rfAll s a m).m, .int .i64 p, .bool neg, .bool (rfAll s a m).tr, .bool false, .int .i64 s.size, .bool true])) ∧ w' = w := by
  refine (readFloat_any s a m neg hs w).mono ?_
  rintro e w' ⟨⟨X, h1, h2, h3, he⟩, hw⟩
  refine ⟨⟨_, ⟨?_, fun h => by rw [h3 h]⟩, he⟩, hw⟩
  have hok := rfAll_ok hs
  have g1 := hok.dp
  have g2 := hok.nd
  have g3 := hok.nm
  have g4 := hs.len
  have g5 := hs.le
  unfold rfExp rfDp
  split
  · omega
  · split <;> omega

set_option maxHeartbeats 2000000 in
set_option maxRecDepth 100000 in
theorem atof64_core (Ans : Nat → Bool → Prop) (s : ByteArray) (a m : Nat) (neg : Bool) (hs : NumText s a m neg) (w : World) (hT : FTabs w)
    (hAns : ∀ p S, Plainly s a m p S → Ans (atofF neg (rfAll s a m).m p (rfAll s a m).tr S).1 (atofF neg (rfAll s a m).m p (rfAll s a m).tr S).2) :
    Calls Tryd.prog 42 #[.string s] w fun r w' => (∃ f ov, Hid (Ans f ov) ∧ r = .returned (.tuple #[.float .f64 f, .int .i64 s.size, errV ov])) ∧ Below w.heap.size w w' := by
  have HS := hide (special_any s a m neg hs)
  have HR := hide (read_ans s a m neg hs)
  have hm : 0 ≤ (rfAll s a m).m ∧ (rfAll s a m).m < 18446744073709551616 := (rfAll_ok hs).m0
  have HB : Hid (∀ w, Calls Tryd.prog 55 #[.bool neg] w fun r w' => r = .returned (.int .u64 (boolI neg)) ∧ w' = w) := sign_any neg
  have hsg : IntKind.u64.wrap (boolI neg * 9223372036854775808) = sgW neg := sgW_shift neg
  have hd := frombits_run
  have copt := hT.opt
  have c11 := hT.info.mant
  have HT := hide hT
  have HN := hide hs
  have HAns := hide hAns
  clear hT hs hAns
  generalize (rfAll s a m).m = M at *
  generalize (rfAll s a m).tr = tr at *
  obtain ⟨sg, hsgE⟩ : ∃ sg, sgW neg = sg := ⟨_, rfl⟩
  rw [hsgE] at hsg
  have HSg := hide hsgE
  clear hsgE
  generalize boolI neg = bi at *
  go_enter Tryd.func42, Tryd.ntmps42
  go_upto_region 12 with (first | (go_at_call 46; refine (unhide HS _).mono ?_; rintro e w' ⟨rfl, hw⟩; obtain rfl := hw.symm) | (go_at_call 47; refine (unhide HR _).mono ?_; rintro e w' ⟨⟨p, HP, rfl⟩, hw⟩; obtain rfl := hw.symm) | (go_at_call 55; refine (unhide HB _).mono ?_; rintro e w' ⟨rfl, hw⟩; obtain rfl := hw.symm))
  have hp := (unhide HP).1
  have HP2 := hide (unhide HP).2
  clear HP HS HR HB hsg
  -- an answer that leans on no decimal
  have HA0 := hide (unhide HAns p (stOf s a m 0) fun h => ⟨unhide HP2 h, rfl⟩)
  by_cases h0 : M = 0
  · subst h0
    have HA1 : Hid (Ans (bits BinOp.or .u64 sg 0).toNat false) := by
      have h := unhide HA0
      unfold atofF at h
      rw [if_pos rfl, unhide HSg] at h
      exact h
    go_wp2
    go_ret3
    exact ⟨⟨_, _, HA1, rfl⟩, Below.refl _ _⟩
  · by_cases h1 : 310 < p
    · have HA1 : Hid (Ans (bits BinOp.or .u64 sg 9218868437227405312).toNat true) := by
        have h := unhide HA0
        unfold atofF at h
        rw [if_neg h0, if_pos h1, unhide HSg] at h
        exact h
      go_wp2
      go_ret3
      exact ⟨⟨_, _, HA1, rfl⟩, Below.refl _ _⟩
    · by_cases h2 : p < -345
      · have HA1 : Hid (Ans (bits BinOp.or .u64 sg 0).toNat false) := by
          have h := unhide HA0
          unfold atofF at h
          rw [if_neg h0, if_neg h1, if_pos h2, unhide HSg] at h
          exact h
        go_wp2
        go_ret3
        exact ⟨⟨_, .inl ⟨HA1, rfl⟩⟩, Below.refl _ _⟩
      · have HF := hide (fun d hd w (hT : FTabs w) => parseFloat64_any sg d p hd (by omega) w hT.pow10 (by have := hT.big; omega))
        obtain ⟨F, hF⟩ : ∃ F : Int → Nat × Bool, F = fun d => pfF sg d p := ⟨_, rfl⟩
        have HFe := hide hF
        replace HF : Hid (∀ d, 0 ≤ d ∧ d < 18446744073709551616 → ∀ w, FTabs w → Calls Tryd.prog 58 #[.int .u64 d, .int .i64 p, .int .u64 sg] w fun r w' => r = .returned (.tuple #[.float .f64 (F d).1, errV (F d).2]) ∧ Below w.heap.size w w') := by rw [hF]; exact unhide HF
        clear hF
        cases tr
        · have HX := hide (exact_any neg M p hm.1 (by omega) w c11 (unhide HT).f10)
          cases hx : (exF neg M p).2
          · have HA1 : Hid (Ans (F M).1 (F M).2) := by
              have h := unhide HA0
              unfold atofF at h
              rw [if_neg h0, if_neg h1, if_neg h2, if_pos rfl, hx, if_neg (by decide), unhide HSg] at h
              rw [unhide HFe]
              exact h
            rw [hx] at HX
            generalize (exF neg M p).1 = fx at *
            clear hx HA0
            go_wp2_with (first | (go_at_call 57; refine (unhide HX).mono ?_; rintro e w' ⟨rfl, hw⟩; obtain rfl := hw.symm) | (go_at_call 58; first | (have hq := unhide HB1; clear hq; refine (unhide HF _ (wrapU_range _) _ ((unhide HT).stay (Nat.le_refl _) (unhide HB1))).mono ?_; rintro e w2 ⟨rfl, hb2⟩; have HZ := hide (unhide HB1).size; have HB2 := hide (hb2.mono (unhide HZ)); have HZ2 := hide hb2.size; clear hb2) | (refine (unhide HF _ hm _ (unhide HT)).mono ?_; rintro e w1 ⟨rfl, hb1⟩; have HB1 := hide hb1; clear hb1)))
            go_ret3
            exact ⟨⟨_, _, HA1, rfl⟩, unhide HB1⟩
          · have HA1 : Hid (Ans (exF neg M p).1 false) := by
              have h := unhide HA0
              unfold atofF at h
              rw [if_neg h0, if_neg h1, if_neg h2, if_pos rfl, hx, if_pos rfl] at h
              exact h
            rw [hx] at HX
            generalize (exF neg M p).1 = fx at *
            clear hx HA0
            go_wp2_with (first | (go_at_call 57; refine (unhide HX).mono ?_; rintro e w' ⟨rfl, hw⟩; obtain rfl := hw.symm))
            go_ret3
            exact ⟨⟨_, _, HA1, rfl⟩, Below.refl _ _⟩
        · cases he : (FloatKind.f64.format.order (F M).1 (F (IntKind.u64.wrap (M + 1))).1 == some .eq)
          · have HA2 : Hid (∀ S, Plainly s a m p S → Ans (fbW neg S).toNat (fbBits S).2) := fun S hS => by
              have h := unhide HAns p S hS
              unfold atofF at h
              rw [unhide HFe] at he
              rw [if_neg h0, if_neg h1, if_neg h2, if_neg (by decide), unhide HSg, if_neg (by rw [he]; decide)] at h
              exact h
            clear HAns HA0 HFe
            have hex := extract_all s
            have HSet := hide (fun A w h => set_any A s a m neg (unhide HN) w h)
            have HFl := hide (fun X => bits_any neg (stOf s a m X) (stOf_good (unhide HN) X))
            go_upto_region 28 with (first | (go_at_call 58; first | (have hq := unhide HB1; clear hq; refine (unhide HF _ (wrapU_range _) _ ((unhide HT).stay (Nat.le_refl _) (unhide HB1))).mono ?_; rintro e w2 ⟨rfl, hb2⟩; have HZ := hide (unhide HB1).size; have HB2 := hide (hb2.mono (unhide HZ)); have HZ2 := hide hb2.size; clear hb2) | (refine (unhide HF _ hm _ (unhide HT)).mono ?_; rintro e w1 ⟨rfl, hb1⟩; have HB1 := hide hb1; clear hb1)))
            have HB12 := hide ((unhide HB1).trans (unhide HB2))
            have HT2 := hide ((unhide HT).stay (Nat.le_refl _) (unhide HB12))
            have HZ3 := hide (Nat.le_trans (unhide HZ) (unhide HZ2))
            go_upto_region 29 with fail
            have HI2 := hide (show In w2.heap.size false st0 (w2.alloc (.cells Tryd.zeroCells100 100)) from dec_new w2)
            have HB5 := hide ((Below.refl w2.heap.size w2).alloc (Nat.le_refl _) (.cells Tryd.zeroCells100 100))
            clear HF copt c11 he
            generalize w2.alloc (.cells Tryd.zeroCells100 100) = W at *
            have HT2c := hide (unhide HT2).cheats
            have HT2p := hide (unhide HT2).powtab
            have HT2i := hide (unhide HT2).info
            clear HT2
            generalize w2.heap.size = A at *
            have HSe := hide (unhide HSet A W (unhide HI2))
            clear HI2
            go_upto_region 31 with (first | (go_at_call 53; refine (unhide HSe).mono ?_; rintro e w3 ⟨rfl, ⟨X, hX1, hX2, hX3, hi3⟩, hb3⟩; have HI3 := hide hi3; have HX3 := hide hX3; have HB3 := hide ((unhide HB5).trans hb3); clear hi3 hb3 hX1 hX2 hX3))
            have HA3 := hide (unhide HA2 (stOf s a m X) fun h => ⟨unhide HP2 h, by rw [unhide HX3 h]⟩)
            have HFx := hide (unhide HFl X)
            clear HFl HA2 HX3
            generalize stOf s a m X = S at *
            generalize fbW neg S = b at *
            generalize (fbBits S).2 = ov at *
            cases ov
            · go_wp2_with (go_at_call 54; refine (unhide HFx A 4 _ (unhide HI3) ((unhide HT2c).below (unhide HB3)) ((unhide HT2p).below (unhide HB3)) ((unhide HT2i).stay (unhide HB3))).mono ?_; rintro e w4 ⟨rfl, hb4⟩; have HB4 := hide ((unhide HB3).trans hb4); clear hb4)
              go_ret3
              exact ⟨⟨_, _, HA3, rfl⟩, (unhide HB12).trans ((unhide HB4).mono (unhide HZ3))⟩
            · go_wp2_with (go_at_call 54; refine (unhide HFx A 4 _ (unhide HI3) ((unhide HT2c).below (unhide HB3)) ((unhide HT2p).below (unhide HB3)) ((unhide HT2i).stay (unhide HB3))).mono ?_; rintro e w4 ⟨rfl, hb4⟩; have HB4 := hide ((unhide HB3).trans hb4); clear hb4)
              go_ret3
              exact ⟨⟨_, _, HA3, rfl⟩, (unhide HB12).trans ((unhide HB4).mono (unhide HZ3))⟩
          · have HA1 : Hid (Ans (F M).1 (F M).2) := by
              have h := unhide HA0
              unfold atofF at h
              rw [unhide HFe] at he
              rw [if_neg h0, if_neg h1, if_neg h2, if_neg (by decide), unhide HSg, if_pos he] at h
              rw [unhide HFe]
              exact h
            clear HA0 HFe
            go_wp2_with (first | (go_at_call 58; first | (have hq := unhide HB1; clear hq; refine (unhide HF _ (wrapU_range _) _ ((unhide HT).stay (Nat.le_refl _) (unhide HB1))).mono ?_; rintro e w2 ⟨rfl, hb2⟩; have HZ := hide (unhide HB1).size; have HB2 := hide (hb2.mono (unhide HZ)); have HZ2 := hide hb2.size; clear hb2) | (refine (unhide HF _ hm _ (unhide HT)).mono ?_; rintro e w1 ⟨rfl, hb1⟩; have HB1 := hide hb1; clear hb1)))
            go_ret3
            exact ⟨⟨_, _, HA1, rfl⟩, (unhide HB1).trans (unhide HB2)⟩
end Go.Proofs.Qxb6606071aDoor.Fl
