import Derived.Test.Qxb6614997aFmtW4
import Derived.Test.Qxb6614997aFmtW8
import Derived.Test.Qxb6614997aFmtW9
import Derived.Test.Qxb6614997aFmtPlain4
namespace Go.Proofs.Qxb6614997aFmt
open Go.RowKit Go.Shelf Go.Extern.Stop Go.Stop Go.Extern

theorem unesc_said : UnescSaid := fun s w hs hT => unescape_any s w hs hT

theorem zz_none (F : Interp) (s : ByteArray) (m : Int) (h : Pl.page s.data.toList m = none) (hs : s.size ≤ 16777216) (w : World) (hF : F.answers w.tape) (hE : Env w) :
    Calls Tryf.prog 6 #[.string s, .int .i64 m] w fun e w' => ∃ t x, e = .returned (.tuple #[.int .i64 0, .int .i64 0, .iface t x]) ∧ Below w.heap.size w w' := by
  refine (zzPage_any unesc_said F s m w hF hs hE).mono ?_
  rintro e w' ⟨⟨_, t, x, he⟩ | ⟨o, l, hr, _⟩, hb⟩
  · exact ⟨t, x, he, hb⟩
  · rw [h] at hr; cases hr

theorem zz_some (F : Interp) (s : ByteArray) (m o l : Int) (h : Pl.page s.data.toList m = some (o, l)) (hs : s.size ≤ 16777216) (w : World) (hF : F.answers w.tape) (hE : Env w) :
    Calls Tryf.prog 6 #[.string s, .int .i64 m] w fun e w' => e = .returned (.tuple #[.int .i64 o, .int .i64 l, .nilIface]) ∧ Below w.heap.size w w' := by
  refine (zzPage_any unesc_said F s m w hF hs hE).mono ?_
  rintro e w' ⟨⟨hr, t, x, he⟩ | ⟨o', l', hr, he⟩, hb⟩
  · rw [h] at hr; cases hr
  · rw [h] at hr; cases hr; exact ⟨he, hb⟩

theorem s1_data (q : ByteArray) : (({ data := #[111, 102, 102, 115, 101, 116, 61, 48, 38] } : ByteArray) ++ q).data.toList = Pl.offsetPair [48] ++ 38 :: q.data.toList := by
  simp [Pl.offsetPair, Pl.offsetN]
theorem s2_data (q : ByteArray) : (({ data := #[108, 105, 109, 105, 116, 61, 49, 38] } : ByteArray) ++ q).data.toList = Pl.limitPair [49] ++ 38 :: q.data.toList := by
  simp [Pl.limitPair, Pl.limitN]
theorem size_list (x : ByteArray) : x.size = x.data.toList.length := by simp
/-- 'limit=' sL ' and offset=' sN ' and ' q. -/
def s3 (q sL sN : ByteArray) : ByteArray := { data := #[108, 105, 109, 105, 116, 61] } ++ sL ++ { data := #[38, 111, 102, 102, 115, 101, 116, 61] } ++ sN ++ { data := #[38] } ++ q
theorem s3_data (q sL sN : ByteArray) : (s3 q sL sN).data.toList = Pl.limitPair sL.data.toList ++ 38 :: (Pl.offsetPair sN.data.toList ++ 38 :: q.data.toList) := by
  unfold s3
  simp [Pl.limitPair, Pl.limitN, Pl.offsetPair, Pl.offsetN]
theorem s3_size (q sL sN : ByteArray) (h : q.size ≤ 1048576) (h1 : sL.size ≤ 21) (h2 : sN.size ≤ 21) : (s3 q sL sN).size ≤ 16777216 := by
  rw [size_list, s3_data]
  rw [size_list] at h h1 h2
  simp [Pl.limitPair, Pl.limitN, Pl.offsetPair, Pl.offsetN]
  simp at h h1 h2
  omega
theorem zzItoa_str (n : Int) (h1 : -9223372036854775808 ≤ n) (h2 : n ≤ 9223372036854775807) (w : World) :
    Calls Tryf.prog 7 #[.int .i64 n] w fun e w' => ∃ s : ByteArray, Hid (s.data.toList = Pl.itoa n) ∧ s.size ≤ 21 ∧ e = .returned (.string s) ∧ Below w.heap.size w w' := by
  refine (zzItoa_any n w h1 h2).mono ?_
  rintro e w' ⟨rfl, hb⟩
  exact ⟨_, (by simp : _ = _), by rw [size_list]; simpa using Pl.itoa_length n, rfl, hb⟩
theorem s1_size (q : ByteArray) (h : q.size ≤ 1048576) : (({ data := #[111, 102, 102, 115, 101, 116, 61, 48, 38] } : ByteArray) ++ q).size ≤ 16777216 := by
  rw [ByteArray.size_append]
  have : ({ data := #[111, 102, 102, 115, 101, 116, 61, 48, 38] } : ByteArray).size = 9 := rfl
  omega
theorem s2_size (q : ByteArray) (h : q.size ≤ 1048576) : (({ data := #[108, 105, 109, 105, 116, 61, 49, 38] } : ByteArray) ++ q).size ≤ 16777216 := by
  rw [ByteArray.size_append]
  have : ({ data := #[108, 105, 109, 105, 116, 61, 49, 38] } : ByteArray).size = 8 := rfl
  omega

set_option maxRecDepth 100000 in
set_option maxHeartbeats 4000000 in
theorem law1_log (F : Interp) (q : ByteArray) (m L N o l : Int) (w : World) (hF : F.answers w.tape) (hq : q.size ≤ 1048576) (hE : Env w) (hL0 : -9223372036854775808 ≤ L) (hL : L ≤ 9223372036854775807) (hN0 : -9223372036854775808 ≤ N) (hN : N ≤ 9223372036854775807)
    (hl : Pl.limitOf q.data.toList m = some l) (ho : Pl.offsetOf q.data.toList = some o) (h1 : 1 ≤ L) (h2 : L ≤ m) (h3 : 0 ≤ N) :
    Calls Tryf.prog 3 #[.string q, .int .i64 m, .int .i64 L, .int .i64 N] w fun e w' => e = .returned (.bool true) ∧ Below w.heap.size w w' := by
  have HZ := hide (zzBytes5_any q m L N w (by unfold maxLen; omega))
  have HEat : Hid (∀ W, Below w.heap.size w W → Env W) := fun W h => hE.below h (Nat.le_refl _)
  have HFat : Hid (∀ W : World, Below w.heap.size w W → F.answers W.tape) := fun W h => by rw [h.tape]; exact hF
  have HC0 := hide (zz_some F q m o l (by rw [Pl.page0, hl, ho]; rfl) (by omega))
  have HC1 := hide (zz_some F ({ data := #[111, 102, 102, 115, 101, 116, 61, 48, 38] } ++ q) m 0 l (by rw [s1_data, Pl.page1, hl]; rfl) (s1_size q hq))
  have HC2 := hide (zz_some F ({ data := #[108, 105, 109, 105, 116, 61, 49, 38] } ++ q) 1 o 1 (by rw [s2_data, Pl.page2, ho]; rfl) (s2_size q hq))
  have HC3 := hide (fun sL sN (eL : sL.data.toList = Pl.itoa L) (eN : sN.data.toList = Pl.itoa N) (zL : sL.size ≤ 21) (zN : sN.size ≤ 21) => zz_some F (s3 q sL sN) m N L (by rw [s3_data, eL, eN, Pl.page3 _ _ _ _ hL hN, if_pos ⟨h1, h2, h3⟩]) (s3_size q sL sN hq zL zN))
  have HI1 := hide (zzItoa_str L hL0 hL)
  have HI2 := hide (zzItoa_str N hN0 hN)
  clear hF hE hl ho hL0 hL hN0 hN
  go_enter Tryf.func3, Tryf.ntmps3
  go_wp2_with fail
  refine (unhide HZ).mono ?_
  rintro e w' ⟨rfl, rfl⟩
  have HB0 := hide (Below.refl w'.heap.size w')
  go_wp2_with fail
  refine (unhide HC0 _ (unhide HFat _ (unhide HB0)) (unhide HEat _ (unhide HB0))).mono ?_
  rintro e w0x ⟨rfl, hb⟩
  have HB1 := hide ((unhide HB0).trans (hb.mono (unhide HB0).size))
  clear hb HB0 HC0
  go_wp2_with fail
  refine (unhide HC1 _ (unhide HFat _ (unhide HB1)) (unhide HEat _ (unhide HB1))).mono ?_
  rintro e w1x ⟨rfl, hb⟩
  have HB2 := hide ((unhide HB1).trans (hb.mono (unhide HB1).size))
  clear hb HB1 HC1
  go_wp2_with fail
  refine (unhide HC2 _ (unhide HFat _ (unhide HB2)) (unhide HEat _ (unhide HB2))).mono ?_
  rintro e w2x ⟨rfl, hb⟩
  have HB3 := hide ((unhide HB2).trans (hb.mono (unhide HB2).size))
  clear hb HB2 HC2
  go_wp2_with fail
  refine (unhide HI1 _).mono ?_
  rintro e wi0 ⟨sL, EL, zL, rfl, hb⟩
  have HB4 := hide ((unhide HB3).trans (hb.mono (unhide HB3).size))
  clear hb HB3 HI1
  go_wp2_with fail
  refine (unhide HI2 _).mono ?_
  rintro e wi1 ⟨sN, EN, zN, rfl, hb⟩
  have HB5 := hide ((unhide HB4).trans (hb.mono (unhide HB4).size))
  clear hb HB4 HI2
  go_wp2_with fail
  have h3c := unhide HC3 sL sN (unhide EL) (unhide EN) zL zN _ (unhide HFat _ (unhide HB5)) (unhide HEat _ (unhide HB5))
  unfold s3 at h3c
  refine h3c.mono ?_
  clear h3c
  rintro e w3x ⟨rfl, hb⟩
  have HB6 := hide ((unhide HB5).trans (hb.mono (unhide HB5).size))
  clear hb HB5 HC3
  go_wp2
  go_ret
  exact ⟨rfl, unhide HB6⟩

set_option maxRecDepth 100000 in
set_option maxHeartbeats 4000000 in
theorem law1_lob (F : Interp) (q : ByteArray) (m L N o l : Int) (w : World) (hF : F.answers w.tape) (hq : q.size ≤ 1048576) (hE : Env w) (hL0 : -9223372036854775808 ≤ L) (hL : L ≤ 9223372036854775807) (hN0 : -9223372036854775808 ≤ N) (hN : N ≤ 9223372036854775807)
    (hl : Pl.limitOf q.data.toList m = some l) (ho : Pl.offsetOf q.data.toList = some o) (hg : ¬ (1 ≤ L ∧ L ≤ m ∧ 0 ≤ N)) :
    Calls Tryf.prog 3 #[.string q, .int .i64 m, .int .i64 L, .int .i64 N] w fun e w' => e = .returned (.bool true) ∧ Below w.heap.size w w' := by
  have HZ := hide (zzBytes5_any q m L N w (by unfold maxLen; omega))
  have HEat : Hid (∀ W, Below w.heap.size w W → Env W) := fun W h => hE.below h (Nat.le_refl _)
  have HFat : Hid (∀ W : World, Below w.heap.size w W → F.answers W.tape) := fun W h => by rw [h.tape]; exact hF
  have HC0 := hide (zz_some F q m o l (by rw [Pl.page0, hl, ho]; rfl) (by omega))
  have HC1 := hide (zz_some F ({ data := #[111, 102, 102, 115, 101, 116, 61, 48, 38] } ++ q) m 0 l (by rw [s1_data, Pl.page1, hl]; rfl) (s1_size q hq))
  have HC2 := hide (zz_some F ({ data := #[108, 105, 109, 105, 116, 61, 49, 38] } ++ q) 1 o 1 (by rw [s2_data, Pl.page2, ho]; rfl) (s2_size q hq))
  have HC3 := hide (fun sL sN (eL : sL.data.toList = Pl.itoa L) (eN : sN.data.toList = Pl.itoa N) (zL : sL.size ≤ 21) (zN : sN.size ≤ 21) => zz_none F (s3 q sL sN) m (by rw [s3_data, eL, eN, Pl.page3 _ _ _ _ hL hN, if_neg hg]) (s3_size q sL sN hq zL zN))
  have HI1 := hide (zzItoa_str L hL0 hL)
  have HI2 := hide (zzItoa_str N hN0 hN)
  clear hF hE hl ho hL0 hL hN0 hN
  go_enter Tryf.func3, Tryf.ntmps3
  go_wp2_with fail
  refine (unhide HZ).mono ?_
  rintro e w' ⟨rfl, rfl⟩
  have HB0 := hide (Below.refl w'.heap.size w')
  go_wp2_with fail
  refine (unhide HC0 _ (unhide HFat _ (unhide HB0)) (unhide HEat _ (unhide HB0))).mono ?_
  rintro e w0x ⟨rfl, hb⟩
  have HB1 := hide ((unhide HB0).trans (hb.mono (unhide HB0).size))
  clear hb HB0 HC0
  go_wp2_with fail
  refine (unhide HC1 _ (unhide HFat _ (unhide HB1)) (unhide HEat _ (unhide HB1))).mono ?_
  rintro e w1x ⟨rfl, hb⟩
  have HB2 := hide ((unhide HB1).trans (hb.mono (unhide HB1).size))
  clear hb HB1 HC1
  go_wp2_with fail
  refine (unhide HC2 _ (unhide HFat _ (unhide HB2)) (unhide HEat _ (unhide HB2))).mono ?_
  rintro e w2x ⟨rfl, hb⟩
  have HB3 := hide ((unhide HB2).trans (hb.mono (unhide HB2).size))
  clear hb HB2 HC2
  go_wp2_with fail
  refine (unhide HI1 _).mono ?_
  rintro e wi0 ⟨sL, EL, zL, rfl, hb⟩
  have HB4 := hide ((unhide HB3).trans (hb.mono (unhide HB3).size))
  clear hb HB3 HI1
  go_wp2_with fail
  refine (unhide HI2 _).mono ?_
  rintro e wi1 ⟨sN, EN, zN, rfl, hb⟩
  have HB5 := hide ((unhide HB4).trans (hb.mono (unhide HB4).size))
  clear hb HB4 HI2
  go_wp2_with fail
  have h3c := unhide HC3 sL sN (unhide EL) (unhide EN) zL zN _ (unhide HFat _ (unhide HB5)) (unhide HEat _ (unhide HB5))
  unfold s3 at h3c
  refine h3c.mono ?_
  clear h3c
  rintro e w3x ⟨t3, x3, rfl, hb⟩
  have HB6 := hide ((unhide HB5).trans (hb.mono (unhide HB5).size))
  clear hb HB5 HC3
  rcases (show L < 1 ∨ (1 ≤ L ∧ m < L) ∨ (1 ≤ L ∧ L ≤ m ∧ N < 0) by omega) with h | ⟨h, h'⟩ | ⟨h, h', h''⟩
  all_goals
    clear hg
    go_wp2
    go_ret
    exact ⟨rfl, unhide HB6⟩

set_option maxRecDepth 100000 in
set_option maxHeartbeats 4000000 in
theorem law1_lng (F : Interp) (q : ByteArray) (m L N l : Int) (w : World) (hF : F.answers w.tape) (hq : q.size ≤ 1048576) (hE : Env w) (hL0 : -9223372036854775808 ≤ L) (hL : L ≤ 9223372036854775807) (hN0 : -9223372036854775808 ≤ N) (hN : N ≤ 9223372036854775807)
    (hl : Pl.limitOf q.data.toList m = some l) (ho : Pl.offsetOf q.data.toList = none) (h1 : 1 ≤ L) (h2 : L ≤ m) (h3 : 0 ≤ N) :
    Calls Tryf.prog 3 #[.string q, .int .i64 m, .int .i64 L, .int .i64 N] w fun e w' => e = .returned (.bool true) ∧ Below w.heap.size w w' := by
  have HZ := hide (zzBytes5_any q m L N w (by unfold maxLen; omega))
  have HEat : Hid (∀ W, Below w.heap.size w W → Env W) := fun W h => hE.below h (Nat.le_refl _)
  have HFat : Hid (∀ W : World, Below w.heap.size w W → F.answers W.tape) := fun W h => by rw [h.tape]; exact hF
  have HC0 := hide (zz_none F q m (by rw [Pl.page0, hl, ho]; rfl) (by omega))
  have HC1 := hide (zz_some F ({ data := #[111, 102, 102, 115, 101, 116, 61, 48, 38] } ++ q) m 0 l (by rw [s1_data, Pl.page1, hl]; rfl) (s1_size q hq))
  have HC2 := hide (zz_none F ({ data := #[108, 105, 109, 105, 116, 61, 49, 38] } ++ q) 1 (by rw [s2_data, Pl.page2, ho]; rfl) (s2_size q hq))
  have HC3 := hide (fun sL sN (eL : sL.data.toList = Pl.itoa L) (eN : sN.data.toList = Pl.itoa N) (zL : sL.size ≤ 21) (zN : sN.size ≤ 21) => zz_some F (s3 q sL sN) m N L (by rw [s3_data, eL, eN, Pl.page3 _ _ _ _ hL hN, if_pos ⟨h1, h2, h3⟩]) (s3_size q sL sN hq zL zN))
  have HI1 := hide (zzItoa_str L hL0 hL)
  have HI2 := hide (zzItoa_str N hN0 hN)
  clear hF hE hl ho hL0 hL hN0 hN
  go_enter Tryf.func3, Tryf.ntmps3
  go_wp2_with fail
  refine (unhide HZ).mono ?_
  rintro e w' ⟨rfl, rfl⟩
  have HB0 := hide (Below.refl w'.heap.size w')
  go_wp2_with fail
  refine (unhide HC0 _ (unhide HFat _ (unhide HB0)) (unhide HEat _ (unhide HB0))).mono ?_
  rintro e w0x ⟨t0, x0, rfl, hb⟩
  have HB1 := hide ((unhide HB0).trans (hb.mono (unhide HB0).size))
  clear hb HB0 HC0
  go_wp2_with fail
  refine (unhide HC1 _ (unhide HFat _ (unhide HB1)) (unhide HEat _ (unhide HB1))).mono ?_
  rintro e w1x ⟨rfl, hb⟩
  have HB2 := hide ((unhide HB1).trans (hb.mono (unhide HB1).size))
  clear hb HB1 HC1
  go_wp2_with fail
  refine (unhide HC2 _ (unhide HFat _ (unhide HB2)) (unhide HEat _ (unhide HB2))).mono ?_
  rintro e w2x ⟨t2, x2, rfl, hb⟩
  have HB3 := hide ((unhide HB2).trans (hb.mono (unhide HB2).size))
  clear hb HB2 HC2
  go_wp2_with fail
  refine (unhide HI1 _).mono ?_
  rintro e wi0 ⟨sL, EL, zL, rfl, hb⟩
  have HB4 := hide ((unhide HB3).trans (hb.mono (unhide HB3).size))
  clear hb HB3 HI1
  go_wp2_with fail
  refine (unhide HI2 _).mono ?_
  rintro e wi1 ⟨sN, EN, zN, rfl, hb⟩
  have HB5 := hide ((unhide HB4).trans (hb.mono (unhide HB4).size))
  clear hb HB4 HI2
  go_wp2_with fail
  have h3c := unhide HC3 sL sN (unhide EL) (unhide EN) zL zN _ (unhide HFat _ (unhide HB5)) (unhide HEat _ (unhide HB5))
  unfold s3 at h3c
  refine h3c.mono ?_
  clear h3c
  rintro e w3x ⟨rfl, hb⟩
  have HB6 := hide ((unhide HB5).trans (hb.mono (unhide HB5).size))
  clear hb HB5 HC3
  go_wp2
  go_ret
  exact ⟨rfl, unhide HB6⟩

set_option maxRecDepth 100000 in
set_option maxHeartbeats 4000000 in
theorem law1_lnb (F : Interp) (q : ByteArray) (m L N l : Int) (w : World) (hF : F.answers w.tape) (hq : q.size ≤ 1048576) (hE : Env w) (hL0 : -9223372036854775808 ≤ L) (hL : L ≤ 9223372036854775807) (hN0 : -9223372036854775808 ≤ N) (hN : N ≤ 9223372036854775807)
    (hl : Pl.limitOf q.data.toList m = some l) (ho : Pl.offsetOf q.data.toList = none) (hg : ¬ (1 ≤ L ∧ L ≤ m ∧ 0 ≤ N)) :
    Calls Tryf.prog 3 #[.string q, .int .i64 m, .int .i64 L, .int .i64 N] w fun e w' => e = .returned (.bool true) ∧ Below w.heap.size w w' := by
  have HZ := hide (zzBytes5_any q m L N w (by unfold maxLen; omega))
  have HEat : Hid (∀ W, Below w.heap.size w W → Env W) := fun W h => hE.below h (Nat.le_refl _)
  have HFat : Hid (∀ W : World, Below w.heap.size w W → F.answers W.tape) := fun W h => by rw [h.tape]; exact hF
  have HC0 := hide (zz_none F q m (by rw [Pl.page0, hl, ho]; rfl) (by omega))
  have HC1 := hide (zz_some F ({ data := #[111, 102, 102, 115, 101, 116, 61, 48, 38] } ++ q) m 0 l (by rw [s1_data, Pl.page1, hl]; rfl) (s1_size q hq))
  have HC2 := hide (zz_none F ({ data := #[108, 105, 109, 105, 116, 61, 49, 38] } ++ q) 1 (by rw [s2_data, Pl.page2, ho]; rfl) (s2_size q hq))
  have HC3 := hide (fun sL sN (eL : sL.data.toList = Pl.itoa L) (eN : sN.data.toList = Pl.itoa N) (zL : sL.size ≤ 21) (zN : sN.size ≤ 21) => zz_none F (s3 q sL sN) m (by rw [s3_data, eL, eN, Pl.page3 _ _ _ _ hL hN, if_neg hg]) (s3_size q sL sN hq zL zN))
  have HI1 := hide (zzItoa_str L hL0 hL)
  have HI2 := hide (zzItoa_str N hN0 hN)
  clear hF hE hl ho hL0 hL hN0 hN
  go_enter Tryf.func3, Tryf.ntmps3
  go_wp2_with fail
  refine (unhide HZ).mono ?_
  rintro e w' ⟨rfl, rfl⟩
  have HB0 := hide (Below.refl w'.heap.size w')
  go_wp2_with fail
  refine (unhide HC0 _ (unhide HFat _ (unhide HB0)) (unhide HEat _ (unhide HB0))).mono ?_
  rintro e w0x ⟨t0, x0, rfl, hb⟩
  have HB1 := hide ((unhide HB0).trans (hb.mono (unhide HB0).size))
  clear hb HB0 HC0
  go_wp2_with fail
  refine (unhide HC1 _ (unhide HFat _ (unhide HB1)) (unhide HEat _ (unhide HB1))).mono ?_
  rintro e w1x ⟨rfl, hb⟩
  have HB2 := hide ((unhide HB1).trans (hb.mono (unhide HB1).size))
  clear hb HB1 HC1
  go_wp2_with fail
  refine (unhide HC2 _ (unhide HFat _ (unhide HB2)) (unhide HEat _ (unhide HB2))).mono ?_
  rintro e w2x ⟨t2, x2, rfl, hb⟩
  have HB3 := hide ((unhide HB2).trans (hb.mono (unhide HB2).size))
  clear hb HB2 HC2
  go_wp2_with fail
  refine (unhide HI1 _).mono ?_
  rintro e wi0 ⟨sL, EL, zL, rfl, hb⟩
  have HB4 := hide ((unhide HB3).trans (hb.mono (unhide HB3).size))
  clear hb HB3 HI1
  go_wp2_with fail
  refine (unhide HI2 _).mono ?_
  rintro e wi1 ⟨sN, EN, zN, rfl, hb⟩
  have HB5 := hide ((unhide HB4).trans (hb.mono (unhide HB4).size))
  clear hb HB4 HI2
  go_wp2_with fail
  have h3c := unhide HC3 sL sN (unhide EL) (unhide EN) zL zN _ (unhide HFat _ (unhide HB5)) (unhide HEat _ (unhide HB5))
  unfold s3 at h3c
  refine h3c.mono ?_
  clear h3c
  rintro e w3x ⟨t3, x3, rfl, hb⟩
  have HB6 := hide ((unhide HB5).trans (hb.mono (unhide HB5).size))
  clear hb HB5 HC3
  rcases (show L < 1 ∨ (1 ≤ L ∧ m < L) ∨ (1 ≤ L ∧ L ≤ m ∧ N < 0) by omega) with h | ⟨h, h'⟩ | ⟨h, h', h''⟩
  all_goals
    clear hg
    go_wp2
    go_ret
    exact ⟨rfl, unhide HB6⟩

set_option maxRecDepth 100000 in
set_option maxHeartbeats 4000000 in
theorem law1_nog (F : Interp) (q : ByteArray) (m L N o : Int) (w : World) (hF : F.answers w.tape) (hq : q.size ≤ 1048576) (hE : Env w) (hL0 : -9223372036854775808 ≤ L) (hL : L ≤ 9223372036854775807) (hN0 : -9223372036854775808 ≤ N) (hN : N ≤ 9223372036854775807)
    (hl : Pl.limitOf q.data.toList m = none) (ho : Pl.offsetOf q.data.toList = some o) (h1 : 1 ≤ L) (h2 : L ≤ m) (h3 : 0 ≤ N) :
    Calls Tryf.prog 3 #[.string q, .int .i64 m, .int .i64 L, .int .i64 N] w fun e w' => e = .returned (.bool true) ∧ Below w.heap.size w w' := by
  have HZ := hide (zzBytes5_any q m L N w (by unfold maxLen; omega))
  have HEat : Hid (∀ W, Below w.heap.size w W → Env W) := fun W h => hE.below h (Nat.le_refl _)
  have HFat : Hid (∀ W : World, Below w.heap.size w W → F.answers W.tape) := fun W h => by rw [h.tape]; exact hF
  have HC0 := hide (zz_none F q m (by rw [Pl.page0, hl]; rfl) (by omega))
  have HC1 := hide (zz_none F ({ data := #[111, 102, 102, 115, 101, 116, 61, 48, 38] } ++ q) m (by rw [s1_data, Pl.page1, hl]; rfl) (s1_size q hq))
  have HC2 := hide (zz_some F ({ data := #[108, 105, 109, 105, 116, 61, 49, 38] } ++ q) 1 o 1 (by rw [s2_data, Pl.page2, ho]; rfl) (s2_size q hq))
  have HC3 := hide (fun sL sN (eL : sL.data.toList = Pl.itoa L) (eN : sN.data.toList = Pl.itoa N) (zL : sL.size ≤ 21) (zN : sN.size ≤ 21) => zz_some F (s3 q sL sN) m N L (by rw [s3_data, eL, eN, Pl.page3 _ _ _ _ hL hN, if_pos ⟨h1, h2, h3⟩]) (s3_size q sL sN hq zL zN))
  have HI1 := hide (zzItoa_str L hL0 hL)
  have HI2 := hide (zzItoa_str N hN0 hN)
  clear hF hE hl ho hL0 hL hN0 hN
  go_enter Tryf.func3, Tryf.ntmps3
  go_wp2_with fail
  refine (unhide HZ).mono ?_
  rintro e w' ⟨rfl, rfl⟩
  have HB0 := hide (Below.refl w'.heap.size w')
  go_wp2_with fail
  refine (unhide HC0 _ (unhide HFat _ (unhide HB0)) (unhide HEat _ (unhide HB0))).mono ?_
  rintro e w0x ⟨t0, x0, rfl, hb⟩
  have HB1 := hide ((unhide HB0).trans (hb.mono (unhide HB0).size))
  clear hb HB0 HC0
  go_wp2_with fail
  refine (unhide HC1 _ (unhide HFat _ (unhide HB1)) (unhide HEat _ (unhide HB1))).mono ?_
  rintro e w1x ⟨t1, x1, rfl, hb⟩
  have HB2 := hide ((unhide HB1).trans (hb.mono (unhide HB1).size))
  clear hb HB1 HC1
  go_wp2_with fail
  refine (unhide HC2 _ (unhide HFat _ (unhide HB2)) (unhide HEat _ (unhide HB2))).mono ?_
  rintro e w2x ⟨rfl, hb⟩
  have HB3 := hide ((unhide HB2).trans (hb.mono (unhide HB2).size))
  clear hb HB2 HC2
  go_wp2_with fail
  refine (unhide HI1 _).mono ?_
  rintro e wi0 ⟨sL, EL, zL, rfl, hb⟩
  have HB4 := hide ((unhide HB3).trans (hb.mono (unhide HB3).size))
  clear hb HB3 HI1
  go_wp2_with fail
  refine (unhide HI2 _).mono ?_
  rintro e wi1 ⟨sN, EN, zN, rfl, hb⟩
  have HB5 := hide ((unhide HB4).trans (hb.mono (unhide HB4).size))
  clear hb HB4 HI2
  go_wp2_with fail
  have h3c := unhide HC3 sL sN (unhide EL) (unhide EN) zL zN _ (unhide HFat _ (unhide HB5)) (unhide HEat _ (unhide HB5))
  unfold s3 at h3c
  refine h3c.mono ?_
  clear h3c
  rintro e w3x ⟨rfl, hb⟩
  have HB6 := hide ((unhide HB5).trans (hb.mono (unhide HB5).size))
  clear hb HB5 HC3
  go_wp2
  go_ret
  exact ⟨rfl, unhide HB6⟩

set_option maxRecDepth 100000 in
set_option maxHeartbeats 4000000 in
theorem law1_nob (F : Interp) (q : ByteArray) (m L N o : Int) (w : World) (hF : F.answers w.tape) (hq : q.size ≤ 1048576) (hE : Env w) (hL0 : -9223372036854775808 ≤ L) (hL : L ≤ 9223372036854775807) (hN0 : -9223372036854775808 ≤ N) (hN : N ≤ 9223372036854775807)
    (hl : Pl.limitOf q.data.toList m = none) (ho : Pl.offsetOf q.data.toList = some o) (hg : ¬ (1 ≤ L ∧ L ≤ m ∧ 0 ≤ N)) :
    Calls Tryf.prog 3 #[.string q, .int .i64 m, .int .i64 L, .int .i64 N] w fun e w' => e = .returned (.bool true) ∧ Below w.heap.size w w' := by
  have HZ := hide (zzBytes5_any q m L N w (by unfold maxLen; omega))
  have HEat : Hid (∀ W, Below w.heap.size w W → Env W) := fun W h => hE.below h (Nat.le_refl _)
  have HFat : Hid (∀ W : World, Below w.heap.size w W → F.answers W.tape) := fun W h => by rw [h.tape]; exact hF
  have HC0 := hide (zz_none F q m (by rw [Pl.page0, hl]; rfl) (by omega))
  have HC1 := hide (zz_none F ({ data := #[111, 102, 102, 115, 101, 116, 61, 48, 38] } ++ q) m (by rw [s1_data, Pl.page1, hl]; rfl) (s1_size q hq))
  have HC2 := hide (zz_some F ({ data := #[108, 105, 109, 105, 116, 61, 49, 38] } ++ q) 1 o 1 (by rw [s2_data, Pl.page2, ho]; rfl) (s2_size q hq))
  have HC3 := hide (fun sL sN (eL : sL.data.toList = Pl.itoa L) (eN : sN.data.toList = Pl.itoa N) (zL : sL.size ≤ 21) (zN : sN.size ≤ 21) => zz_none F (s3 q sL sN) m (by rw [s3_data, eL, eN, Pl.page3 _ _ _ _ hL hN, if_neg hg]) (s3_size q sL sN hq zL zN))
  have HI1 := hide (zzItoa_str L hL0 hL)
  have HI2 := hide (zzItoa_str N hN0 hN)
  clear hF hE hl ho hL0 hL hN0 hN
  go_enter Tryf.func3, Tryf.ntmps3
  go_wp2_with fail
  refine (unhide HZ).mono ?_
  rintro e w' ⟨rfl, rfl⟩
  have HB0 := hide (Below.refl w'.heap.size w')
  go_wp2_with fail
  refine (unhide HC0 _ (unhide HFat _ (unhide HB0)) (unhide HEat _ (unhide HB0))).mono ?_
  rintro e w0x ⟨t0, x0, rfl, hb⟩
  have HB1 := hide ((unhide HB0).trans (hb.mono (unhide HB0).size))
  clear hb HB0 HC0
  go_wp2_with fail
  refine (unhide HC1 _ (unhide HFat _ (unhide HB1)) (unhide HEat _ (unhide HB1))).mono ?_
  rintro e w1x ⟨t1, x1, rfl, hb⟩
  have HB2 := hide ((unhide HB1).trans (hb.mono (unhide HB1).size))
  clear hb HB1 HC1
  go_wp2_with fail
  refine (unhide HC2 _ (unhide HFat _ (unhide HB2)) (unhide HEat _ (unhide HB2))).mono ?_
  rintro e w2x ⟨rfl, hb⟩
  have HB3 := hide ((unhide HB2).trans (hb.mono (unhide HB2).size))
  clear hb HB2 HC2
  go_wp2_with fail
  refine (unhide HI1 _).mono ?_
  rintro e wi0 ⟨sL, EL, zL, rfl, hb⟩
  have HB4 := hide ((unhide HB3).trans (hb.mono (unhide HB3).size))
  clear hb HB3 HI1
  go_wp2_with fail
  refine (unhide HI2 _).mono ?_
  rintro e wi1 ⟨sN, EN, zN, rfl, hb⟩
  have HB5 := hide ((unhide HB4).trans (hb.mono (unhide HB4).size))
  clear hb HB4 HI2
  go_wp2_with fail
  have h3c := unhide HC3 sL sN (unhide EL) (unhide EN) zL zN _ (unhide HFat _ (unhide HB5)) (unhide HEat _ (unhide HB5))
  unfold s3 at h3c
  refine h3c.mono ?_
  clear h3c
  rintro e w3x ⟨t3, x3, rfl, hb⟩
  have HB6 := hide ((unhide HB5).trans (hb.mono (unhide HB5).size))
  clear hb HB5 HC3
  rcases (show L < 1 ∨ (1 ≤ L ∧ m < L) ∨ (1 ≤ L ∧ L ≤ m ∧ N < 0) by omega) with h | ⟨h, h'⟩ | ⟨h, h', h''⟩
  all_goals
    clear hg
    go_wp2
    go_ret
    exact ⟨rfl, unhide HB6⟩

set_option maxRecDepth 100000 in
set_option maxHeartbeats 4000000 in
theorem law1_nng (F : Interp) (q : ByteArray) (m L N : Int) (w : World) (hF : F.answers w.tape) (hq : q.size ≤ 1048576) (hE : Env w) (hL0 : -9223372036854775808 ≤ L) (hL : L ≤ 9223372036854775807) (hN0 : -9223372036854775808 ≤ N) (hN : N ≤ 9223372036854775807)
    (hl : Pl.limitOf q.data.toList m = none) (ho : Pl.offsetOf q.data.toList = none) (h1 : 1 ≤ L) (h2 : L ≤ m) (h3 : 0 ≤ N) :
    Calls Tryf.prog 3 #[.string q, .int .i64 m, .int .i64 L, .int .i64 N] w fun e w' => e = .returned (.bool true) ∧ Below w.heap.size w w' := by
  have HZ := hide (zzBytes5_any q m L N w (by unfold maxLen; omega))
  have HEat : Hid (∀ W, Below w.heap.size w W → Env W) := fun W h => hE.below h (Nat.le_refl _)
  have HFat : Hid (∀ W : World, Below w.heap.size w W → F.answers W.tape) := fun W h => by rw [h.tape]; exact hF
  have HC0 := hide (zz_none F q m (by rw [Pl.page0, hl]; rfl) (by omega))
  have HC1 := hide (zz_none F ({ data := #[111, 102, 102, 115, 101, 116, 61, 48, 38] } ++ q) m (by rw [s1_data, Pl.page1, hl]; rfl) (s1_size q hq))
  have HC2 := hide (zz_none F ({ data := #[108, 105, 109, 105, 116, 61, 49, 38] } ++ q) 1 (by rw [s2_data, Pl.page2, ho]; rfl) (s2_size q hq))
  have HC3 := hide (fun sL sN (eL : sL.data.toList = Pl.itoa L) (eN : sN.data.toList = Pl.itoa N) (zL : sL.size ≤ 21) (zN : sN.size ≤ 21) => zz_some F (s3 q sL sN) m N L (by rw [s3_data, eL, eN, Pl.page3 _ _ _ _ hL hN, if_pos ⟨h1, h2, h3⟩]) (s3_size q sL sN hq zL zN))
  have HI1 := hide (zzItoa_str L hL0 hL)
  have HI2 := hide (zzItoa_str N hN0 hN)
  clear hF hE hl ho hL0 hL hN0 hN
  go_enter Tryf.func3, Tryf.ntmps3
  go_wp2_with fail
  refine (unhide HZ).mono ?_
  rintro e w' ⟨rfl, rfl⟩
  have HB0 := hide (Below.refl w'.heap.size w')
  go_wp2_with fail
  refine (unhide HC0 _ (unhide HFat _ (unhide HB0)) (unhide HEat _ (unhide HB0))).mono ?_
  rintro e w0x ⟨t0, x0, rfl, hb⟩
  have HB1 := hide ((unhide HB0).trans (hb.mono (unhide HB0).size))
  clear hb HB0 HC0
  go_wp2_with fail
  refine (unhide HC1 _ (unhide HFat _ (unhide HB1)) (unhide HEat _ (unhide HB1))).mono ?_
  rintro e w1x ⟨t1, x1, rfl, hb⟩
  have HB2 := hide ((unhide HB1).trans (hb.mono (unhide HB1).size))
  clear hb HB1 HC1
  go_wp2_with fail
  refine (unhide HC2 _ (unhide HFat _ (unhide HB2)) (unhide HEat _ (unhide HB2))).mono ?_
  rintro e w2x ⟨t2, x2, rfl, hb⟩
  have HB3 := hide ((unhide HB2).trans (hb.mono (unhide HB2).size))
  clear hb HB2 HC2
  go_wp2_with fail
  refine (unhide HI1 _).mono ?_
  rintro e wi0 ⟨sL, EL, zL, rfl, hb⟩
  have HB4 := hide ((unhide HB3).trans (hb.mono (unhide HB3).size))
  clear hb HB3 HI1
  go_wp2_with fail
  refine (unhide HI2 _).mono ?_
  rintro e wi1 ⟨sN, EN, zN, rfl, hb⟩
  have HB5 := hide ((unhide HB4).trans (hb.mono (unhide HB4).size))
  clear hb HB4 HI2
  go_wp2_with fail
  have h3c := unhide HC3 sL sN (unhide EL) (unhide EN) zL zN _ (unhide HFat _ (unhide HB5)) (unhide HEat _ (unhide HB5))
  unfold s3 at h3c
  refine h3c.mono ?_
  clear h3c
  rintro e w3x ⟨rfl, hb⟩
  have HB6 := hide ((unhide HB5).trans (hb.mono (unhide HB5).size))
  clear hb HB5 HC3
  go_wp2
  go_ret
  exact ⟨rfl, unhide HB6⟩

set_option maxRecDepth 100000 in
set_option maxHeartbeats 4000000 in
theorem law1_nnb (F : Interp) (q : ByteArray) (m L N : Int) (w : World) (hF : F.answers w.tape) (hq : q.size ≤ 1048576) (hE : Env w) (hL0 : -9223372036854775808 ≤ L) (hL : L ≤ 9223372036854775807) (hN0 : -9223372036854775808 ≤ N) (hN : N ≤ 9223372036854775807)
    (hl : Pl.limitOf q.data.toList m = none) (ho : Pl.offsetOf q.data.toList = none) (hg : ¬ (1 ≤ L ∧ L ≤ m ∧ 0 ≤ N)) :
    Calls Tryf.prog 3 #[.string q, .int .i64 m, .int .i64 L, .int .i64 N] w fun e w' => e = .returned (.bool true) ∧ Below w.heap.size w w' := by
  have HZ := hide (zzBytes5_any q m L N w (by unfold maxLen; omega))
  have HEat : Hid (∀ W, Below w.heap.size w W → Env W) := fun W h => hE.below h (Nat.le_refl _)
  have HFat : Hid (∀ W : World, Below w.heap.size w W → F.answers W.tape) := fun W h => by rw [h.tape]; exact hF
  have HC0 := hide (zz_none F q m (by rw [Pl.page0, hl]; rfl) (by omega))
  have HC1 := hide (zz_none F ({ data := #[111, 102, 102, 115, 101, 116, 61, 48, 38] } ++ q) m (by rw [s1_data, Pl.page1, hl]; rfl) (s1_size q hq))
  have HC2 := hide (zz_none F ({ data := #[108, 105, 109, 105, 116, 61, 49, 38] } ++ q) 1 (by rw [s2_data, Pl.page2, ho]; rfl) (s2_size q hq))
  have HC3 := hide (fun sL sN (eL : sL.data.toList = Pl.itoa L) (eN : sN.data.toList = Pl.itoa N) (zL : sL.size ≤ 21) (zN : sN.size ≤ 21) => zz_none F (s3 q sL sN) m (by rw [s3_data, eL, eN, Pl.page3 _ _ _ _ hL hN, if_neg hg]) (s3_size q sL sN hq zL zN))
  have HI1 := hide (zzItoa_str L hL0 hL)
  have HI2 := hide (zzItoa_str N hN0 hN)
  clear hF hE hl ho hL0 hL hN0 hN
  go_enter Tryf.func3, Tryf.ntmps3
  go_wp2_with fail
  refine (unhide HZ).mono ?_
  rintro e w' ⟨rfl, rfl⟩
  have HB0 := hide (Below.refl w'.heap.size w')
  go_wp2_with fail
  refine (unhide HC0 _ (unhide HFat _ (unhide HB0)) (unhide HEat _ (unhide HB0))).mono ?_
  rintro e w0x ⟨t0, x0, rfl, hb⟩
  have HB1 := hide ((unhide HB0).trans (hb.mono (unhide HB0).size))
  clear hb HB0 HC0
  go_wp2_with fail
  refine (unhide HC1 _ (unhide HFat _ (unhide HB1)) (unhide HEat _ (unhide HB1))).mono ?_
  rintro e w1x ⟨t1, x1, rfl, hb⟩
  have HB2 := hide ((unhide HB1).trans (hb.mono (unhide HB1).size))
  clear hb HB1 HC1
  go_wp2_with fail
  refine (unhide HC2 _ (unhide HFat _ (unhide HB2)) (unhide HEat _ (unhide HB2))).mono ?_
  rintro e w2x ⟨t2, x2, rfl, hb⟩
  have HB3 := hide ((unhide HB2).trans (hb.mono (unhide HB2).size))
  clear hb HB2 HC2
  go_wp2_with fail
  refine (unhide HI1 _).mono ?_
  rintro e wi0 ⟨sL, EL, zL, rfl, hb⟩
  have HB4 := hide ((unhide HB3).trans (hb.mono (unhide HB3).size))
  clear hb HB3 HI1
  go_wp2_with fail
  refine (unhide HI2 _).mono ?_
  rintro e wi1 ⟨sN, EN, zN, rfl, hb⟩
  have HB5 := hide ((unhide HB4).trans (hb.mono (unhide HB4).size))
  clear hb HB4 HI2
  go_wp2_with fail
  have h3c := unhide HC3 sL sN (unhide EL) (unhide EN) zL zN _ (unhide HFat _ (unhide HB5)) (unhide HEat _ (unhide HB5))
  unfold s3 at h3c
  refine h3c.mono ?_
  clear h3c
  rintro e w3x ⟨t3, x3, rfl, hb⟩
  have HB6 := hide ((unhide HB5).trans (hb.mono (unhide HB5).size))
  clear hb HB5 HC3
  rcases (show L < 1 ∨ (1 ≤ L ∧ m < L) ∨ (1 ≤ L ∧ L ≤ m ∧ N < 0) by omega) with h | ⟨h, h'⟩ | ⟨h, h', h''⟩
  all_goals
    clear hg
    go_wp2
    go_ret
    exact ⟨rfl, unhide HB6⟩


theorem law1_any (F : Interp) (q : ByteArray) (m L N : Int) (w : World) (hF : F.answers w.tape) (hq : q.size ≤ maxLen) (hE : Env w) (hL0 : -9223372036854775808 ≤ L) (hL : L ≤ 9223372036854775807) (hN0 : -9223372036854775808 ≤ N) (hN : N ≤ 9223372036854775807) :
    Calls Tryf.prog 3 #[.string q, .int .i64 m, .int .i64 L, .int .i64 N] w fun e w' => e = .returned (.bool true) ∧ Below w.heap.size w w' := by
  by_cases hs : q.size ≤ 1048576
  · by_cases hg : 1 ≤ L ∧ L ≤ m ∧ 0 ≤ N
    · cases hl : Pl.limitOf q.data.toList m with
      | none => cases ho : Pl.offsetOf q.data.toList with
        | none => exact law1_nng F q m L N w hF hs hE hL0 hL hN0 hN hl ho hg.1 hg.2.1 hg.2.2
        | some o => exact law1_nog F q m L N o w hF hs hE hL0 hL hN0 hN hl ho hg.1 hg.2.1 hg.2.2
      | some l => cases ho : Pl.offsetOf q.data.toList with
        | none => exact law1_lng F q m L N l w hF hs hE hL0 hL hN0 hN hl ho hg.1 hg.2.1 hg.2.2
        | some o => exact law1_log F q m L N o l w hF hs hE hL0 hL hN0 hN hl ho hg.1 hg.2.1 hg.2.2
    · cases hl : Pl.limitOf q.data.toList m with
      | none => cases ho : Pl.offsetOf q.data.toList with
        | none => exact law1_nnb F q m L N w hF hs hE hL0 hL hN0 hN hl ho hg
        | some o => exact law1_nob F q m L N o w hF hs hE hL0 hL hN0 hN hl ho hg
      | some l => cases ho : Pl.offsetOf q.data.toList with
        | none => exact law1_lnb F q m L N l w hF hs hE hL0 hL hN0 hN hl ho hg
        | some o => exact law1_lob F q m L N o l w hF hs hE hL0 hL hN0 hN hl ho hg
  · have HZ := hide (zzBytes5_any q m L N w hq)
    clear hF hE hL0 hL hN0 hN
    go_enter Tryf.func3, Tryf.ntmps3
    go_wp2_with fail
    refine (unhide HZ).mono ?_
    rintro e w' ⟨rfl, rfl⟩
    go_wp2
    go_ret
    exact ⟨rfl, Below.refl _ _⟩

end Go.Proofs.Qxb6614997aFmt
