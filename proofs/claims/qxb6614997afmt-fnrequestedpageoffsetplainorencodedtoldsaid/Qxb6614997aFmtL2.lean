import Derived.Test.Qxb6614997aFmtL1
import Derived.Test.Qxb6614997aFmtW11
namespace Go.Proofs.Qxb6614997aFmt
open Go.RowKit Go.Shelf Go.Extern.Stop Go.Stop Go.Extern

/-- 'limit=1 and offset=' s ' and ' q. -/
def sa (q s : ByteArray) : ByteArray := { data := #[108, 105, 109, 105, 116, 61, 49, 38, 111, 102, 102, 115, 101, 116, 61] } ++ s ++ { data := #[38] } ++ q
theorem sa_data (q s : ByteArray) : (sa q s).data.toList = Pl.limitPair [49] ++ 38 :: (Pl.offsetPair s.data.toList ++ 38 :: q.data.toList) := by
  unfold sa
  simp [Pl.limitPair, Pl.limitN, Pl.offsetPair, Pl.offsetN]
theorem sa_size (q s : ByteArray) (h : q.size ≤ 524288) (h1 : s.size ≤ 524288) : (sa q s).size ≤ 16777216 := by
  rw [size_list, sa_data]
  rw [size_list] at h h1
  simp [Pl.limitPair, Pl.limitN, Pl.offsetPair, Pl.offsetN]
  simp at h h1
  omega
/-- 'limit=1 and ' r1 '=' r2 ' and ' q. -/
def sb (q r1 r2 : ByteArray) : ByteArray := { data := #[108, 105, 109, 105, 116, 61, 49, 38] } ++ r1 ++ { data := #[61] } ++ r2 ++ { data := #[38] } ++ q
theorem sb_data (q r1 r2 : ByteArray) : (sb q r1 r2).data.toList = Pl.limitPair [49] ++ 38 :: (r1.data.toList ++ 61 :: r2.data.toList ++ 38 :: q.data.toList) := by
  unfold sb
  simp [Pl.limitPair, Pl.limitN]
theorem sb_size (q r1 r2 : ByteArray) (h : q.size ≤ 524288) (h1 : r1.size = 18) (h2 : r2.size ≤ 1572864) : (sb q r1 r2).size ≤ 16777216 := by
  rw [size_list, sb_data]
  rw [size_list] at h h1 h2
  simp [Pl.limitPair, Pl.limitN]
  simp at h h1 h2
  omega
theorem off_data : ({ data := #[111, 102, 102, 115, 101, 116] } : ByteArray).data.toList = Pl.offsetN := rfl
theorem pct_off (w : World) : Calls Tryf.prog 9 #[.string { data := #[111, 102, 102, 115, 101, 116] }] w fun e w' => ∃ r : ByteArray, Hid (r.data.toList = Pl.pct Pl.offsetN) ∧ r.size = 18 ∧ e = .returned (.string r) ∧ Below w.heap.size w w' := by
  refine (pct_any { data := #[111, 102, 102, 115, 101, 116] } w (by decide)).mono ?_
  rintro e w' ⟨r, h1, h2, h3, h4⟩
  exact ⟨r, h1, h2, h3, h4⟩


set_option maxRecDepth 100000 in
set_option maxHeartbeats 4000000 in
theorem law2_none (F : Interp) (q s : ByteArray) (w : World) (hF : F.answers w.tape) (hq : q.size ≤ maxLen) (hs : s.size ≤ maxLen) (hE : Env w) (hc : Pl.count s.data.toList = none) :
    Calls Tryf.prog 4 #[.string q, .string s] w fun e w' => e = .returned (.bool true) ∧ Below w.heap.size w w' := by
  have HZ := hide (zzBytes8_any q s w hq hs)
  have HEat : Hid (∀ W, Below w.heap.size w W → Env W) := fun W h => hE.below h (Nat.le_refl _)
  have HFat : Hid (∀ W : World, Below w.heap.size w W → F.answers W.tape) := fun W h => by rw [h.tape]; exact hF
  have HCa := hide (fun (hq2 : q.size ≤ 524288) (hs2 : s.size ≤ 524288) (h : ∀ c ∈ s.data.toList, c ≠ 38 ∧ c ≠ 37 ∧ c ≠ 43) => zz_none F (sa q s) 1 (by rw [sa_data, Pl.page_of _ _ (Pl.param_plain _ _ h), hc]; rfl) (sa_size q s hq2 hs2))
  have HCb := hide (fun (hq2 : q.size ≤ 524288) r1 r2 (e1 : r1.data.toList = Pl.pct Pl.offsetN) (e2 : r2.data.toList = Pl.pct s.data.toList) (z1 : r1.size = 18) (z2 : r2.size ≤ 1572864) => zz_none F (sb q r1 r2) 1 (by rw [sb_data, e1, e2, Pl.page_of _ _ (Pl.param_pct _ _), hc]; rfl) (sb_size q r1 r2 hq2 z1 z2))
  have HI1 := hide (pct_off)
  have HI2 := hide (fun W (hs2 : s.size ≤ 524288) => pct_any s W (by omega))
  have HI3 := hide (fun W (hs2 : s.size ≤ 524288) => sat_any s W (by omega))
  have HN : Hid (cntN s.data.toList = 0 ∧ cntB s.data.toList = false) := by unfold cntN cntB; rw [hc]; exact hide ⟨rfl, rfl⟩
  clear hF hE hc
  unfold maxLen at hq hs
  go_enter Tryf.func4, Tryf.ntmps4
  go_wp2_with fail
  refine (unhide HZ).mono ?_
  rintro e w' ⟨b, rfl, rfl⟩
  clear HZ
  have HB0 := hide (Below.refl w'.heap.size w')
  cases b with
  | false =>
    go_wp2
    go_ret
    exact ⟨rfl, unhide HB0⟩
  | true =>
    by_cases hq2 : q.size ≤ 524288
    case neg =>
      go_wp2
      go_ret
      exact ⟨rfl, unhide HB0⟩
    by_cases hs2 : s.size ≤ 524288
    case neg =>
      go_wp2
      go_ret
      exact ⟨rfl, unhide HB0⟩
    clear hq hs
    go_wp2
    go_loop [5] (fun i => ∃ k : Nat, k ≤ s.size ∧ i = .int .i64 k ∧ Hid (∀ c ∈ s.data.toList.take k, c ≠ 38 ∧ c ≠ 37 ∧ c ≠ 43)) (fun i => s.size - (intOf i).toNat)
    case atStart => exact ⟨0, Nat.zero_le _, rfl, hide (by simp)⟩
    case round =>
      obtain ⟨k, hk, rfl, HA⟩ := hrel
      by_cases hlt : k < s.size
      · have HS : Hid ((s[k].toNat : Int) ≠ 38 → (s[k].toNat : Int) ≠ 37 → (s[k].toNat : Int) ≠ 43 → ∀ c ∈ s.data.toList.take (k + 1), c ≠ 38 ∧ c ≠ 37 ∧ c ≠ 43) := by
          refine hide (fun a1 a2 a3 c hm => ?_)
          rw [take_snoc s k hlt, List.mem_append, List.mem_singleton] at hm
          rcases hm with hm | rfl
          · exact unhide HA c hm
          · exact ⟨fun e => a1 (by rw [e]; rfl), fun e => a2 (by rw [e]; rfl), fun e => a3 (by rw [e]; rfl)⟩
        clear HA
        go_wp2
        all_goals (try (go_ret; exact ⟨rfl, unhide HB0⟩))
        rename_i hh
        simp only [beq_eq_false_iff_ne] at hh
        go_round
        case rel => exact ⟨k + 1, by omega, by go_num, unhide HS hh.1.1 hh.1.2 hh.2⟩
        case measure => simp [intOf]; omega
      · have HALL : Hid (∀ c ∈ s.data.toList, c ≠ 38 ∧ c ≠ 37 ∧ c ≠ 43) := by
          have := unhide HA
          rw [List.take_of_length_le (by simp; omega)] at this
          exact this
        clear HA
        go_wp2_with fail
        have h3c := unhide HCa hq2 hs2 (unhide HALL) _ (unhide HFat _ (unhide HB0)) (unhide HEat _ (unhide HB0))
        unfold sa at h3c
        refine h3c.mono ?_
        clear h3c
        rintro e w1x ⟨t1, x1, rfl, hb⟩
        have HB1 := hide ((unhide HB0).trans (hb.mono (unhide HB0).size))
        clear hb HB0 HCa HALL
        go_wp2_with fail
        refine (unhide HI1 _).mono ?_
        rintro e w2x ⟨r1, E1, z1, rfl, hb⟩
        have HB2 := hide ((unhide HB1).trans (hb.mono (unhide HB1).size))
        clear hb HB1 HI1
        go_wp2_with fail
        refine (unhide HI2 _ hs2).mono ?_
        rintro e w3x ⟨r2, E2, z2, rfl, hb⟩
        have HB3 := hide ((unhide HB2).trans (hb.mono (unhide HB2).size))
        clear hb HB2 HI2
        go_wp2_with fail
        have h3c := unhide HCb hq2 r1 r2 (unhide E1) (unhide E2) z1 (by omega) _ (unhide HFat _ (unhide HB3)) (unhide HEat _ (unhide HB3))
        unfold sb at h3c
        refine h3c.mono ?_
        clear h3c
        rintro e w4x ⟨t2, x2, rfl, hb⟩
        have HB4 := hide ((unhide HB3).trans (hb.mono (unhide HB3).size))
        clear hb HB3 HCb
        go_wp2_with fail
        all_goals go_quiet (fail)
        go_wp2_with fail
        refine (unhide HI3 _ hs2).mono ?_
        rw [(unhide HN).1, (unhide HN).2]
        rintro e w5x ⟨rfl, hb⟩
        have HB5 := hide ((drewN_later (unhide HB4) nq).trans (hb.mono (unhide HB4).size))
        clear hb HB4 HI3
        go_wp2
        go_ret
        exact ⟨rfl, unhide HB5⟩

set_option maxRecDepth 100000 in
set_option maxHeartbeats 4000000 in
theorem law2_some (F : Interp) (q s : ByteArray) (n : Nat) (w : World) (hF : F.answers w.tape) (hq : q.size ≤ maxLen) (hs : s.size ≤ maxLen) (hE : Env w) (hc : Pl.count s.data.toList = some n) :
    Calls Tryf.prog 4 #[.string q, .string s] w fun e w' => e = .returned (.bool true) ∧ Below w.heap.size w w' := by
  have HZ := hide (zzBytes8_any q s w hq hs)
  have HEat : Hid (∀ W, Below w.heap.size w W → Env W) := fun W h => hE.below h (Nat.le_refl _)
  have HFat : Hid (∀ W : World, Below w.heap.size w W → F.answers W.tape) := fun W h => by rw [h.tape]; exact hF
  have HCa := hide (fun (hq2 : q.size ≤ 524288) (hs2 : s.size ≤ 524288) (h : ∀ c ∈ s.data.toList, c ≠ 38 ∧ c ≠ 37 ∧ c ≠ 43) => zz_some F (sa q s) 1 n 1 (by rw [sa_data, Pl.page_of _ _ (Pl.param_plain _ _ h), hc]; rfl) (sa_size q s hq2 hs2))
  have HCb := hide (fun (hq2 : q.size ≤ 524288) r1 r2 (e1 : r1.data.toList = Pl.pct Pl.offsetN) (e2 : r2.data.toList = Pl.pct s.data.toList) (z1 : r1.size = 18) (z2 : r2.size ≤ 1572864) => zz_some F (sb q r1 r2) 1 n 1 (by rw [sb_data, e1, e2, Pl.page_of _ _ (Pl.param_pct _ _), hc]; rfl) (sb_size q r1 r2 hq2 z1 z2))
  have HI1 := hide (pct_off)
  have HI2 := hide (fun W (hs2 : s.size ≤ 524288) => pct_any s W (by omega))
  have HI3 := hide (fun W (hs2 : s.size ≤ 524288) => sat_any s W (by omega))
  have HN : Hid (cntN s.data.toList = (n : Int) ∧ cntB s.data.toList = true) := by unfold cntN cntB; rw [hc]; exact hide ⟨rfl, rfl⟩
  clear hF hE hc
  unfold maxLen at hq hs
  go_enter Tryf.func4, Tryf.ntmps4
  go_wp2_with fail
  refine (unhide HZ).mono ?_
  rintro e w' ⟨b, rfl, rfl⟩
  clear HZ
  have HB0 := hide (Below.refl w'.heap.size w')
  cases b with
  | false =>
    go_wp2
    go_ret
    exact ⟨rfl, unhide HB0⟩
  | true =>
    by_cases hq2 : q.size ≤ 524288
    case neg =>
      go_wp2
      go_ret
      exact ⟨rfl, unhide HB0⟩
    by_cases hs2 : s.size ≤ 524288
    case neg =>
      go_wp2
      go_ret
      exact ⟨rfl, unhide HB0⟩
    clear hq hs
    go_wp2
    go_loop [5] (fun i => ∃ k : Nat, k ≤ s.size ∧ i = .int .i64 k ∧ Hid (∀ c ∈ s.data.toList.take k, c ≠ 38 ∧ c ≠ 37 ∧ c ≠ 43)) (fun i => s.size - (intOf i).toNat)
    case atStart => exact ⟨0, Nat.zero_le _, rfl, hide (by simp)⟩
    case round =>
      obtain ⟨k, hk, rfl, HA⟩ := hrel
      by_cases hlt : k < s.size
      · have HS : Hid ((s[k].toNat : Int) ≠ 38 → (s[k].toNat : Int) ≠ 37 → (s[k].toNat : Int) ≠ 43 → ∀ c ∈ s.data.toList.take (k + 1), c ≠ 38 ∧ c ≠ 37 ∧ c ≠ 43) := by
          refine hide (fun a1 a2 a3 c hm => ?_)
          rw [take_snoc s k hlt, List.mem_append, List.mem_singleton] at hm
          rcases hm with hm | rfl
          · exact unhide HA c hm
          · exact ⟨fun e => a1 (by rw [e]; rfl), fun e => a2 (by rw [e]; rfl), fun e => a3 (by rw [e]; rfl)⟩
        clear HA
        go_wp2
        all_goals (try (go_ret; exact ⟨rfl, unhide HB0⟩))
        rename_i hh
        simp only [beq_eq_false_iff_ne] at hh
        go_round
        case rel => exact ⟨k + 1, by omega, by go_num, unhide HS hh.1.1 hh.1.2 hh.2⟩
        case measure => simp [intOf]; omega
      · have HALL : Hid (∀ c ∈ s.data.toList, c ≠ 38 ∧ c ≠ 37 ∧ c ≠ 43) := by
          have := unhide HA
          rw [List.take_of_length_le (by simp; omega)] at this
          exact this
        clear HA
        go_wp2_with fail
        have h3c := unhide HCa hq2 hs2 (unhide HALL) _ (unhide HFat _ (unhide HB0)) (unhide HEat _ (unhide HB0))
        unfold sa at h3c
        refine h3c.mono ?_
        clear h3c
        rintro e w1x ⟨rfl, hb⟩
        have HB1 := hide ((unhide HB0).trans (hb.mono (unhide HB0).size))
        clear hb HB0 HCa HALL
        go_wp2_with fail
        refine (unhide HI1 _).mono ?_
        rintro e w2x ⟨r1, E1, z1, rfl, hb⟩
        have HB2 := hide ((unhide HB1).trans (hb.mono (unhide HB1).size))
        clear hb HB1 HI1
        go_wp2_with fail
        refine (unhide HI2 _ hs2).mono ?_
        rintro e w3x ⟨r2, E2, z2, rfl, hb⟩
        have HB3 := hide ((unhide HB2).trans (hb.mono (unhide HB2).size))
        clear hb HB2 HI2
        go_wp2_with fail
        have h3c := unhide HCb hq2 r1 r2 (unhide E1) (unhide E2) z1 (by omega) _ (unhide HFat _ (unhide HB3)) (unhide HEat _ (unhide HB3))
        unfold sb at h3c
        refine h3c.mono ?_
        clear h3c
        rintro e w4x ⟨rfl, hb⟩
        have HB4 := hide ((unhide HB3).trans (hb.mono (unhide HB3).size))
        clear hb HB3 HCb
        go_wp2_with fail
        all_goals go_quiet (fail)
        go_wp2_with fail
        refine (unhide HI3 _ hs2).mono ?_
        rw [(unhide HN).1, (unhide HN).2]
        rintro e w5x ⟨rfl, hb⟩
        have HB5 := hide ((drewN_later (unhide HB4) nq).trans (hb.mono (unhide HB4).size))
        clear hb HB4 HI3
        go_wp2
        go_ret
        exact ⟨rfl, unhide HB5⟩

theorem law2_any (F : Interp) (q s : ByteArray) (w : World) (hF : F.answers w.tape) (hq : q.size ≤ maxLen) (hs : s.size ≤ maxLen) (hE : Env w) :
    Calls Tryf.prog 4 #[.string q, .string s] w fun e w' => e = .returned (.bool true) ∧ Below w.heap.size w w' := by
  cases hc : Pl.count s.data.toList with
  | none => exact law2_none F q s w hF hq hs hE hc
  | some n => exact law2_some F q s n w hF hq hs hE hc
end Go.Proofs.Qxb6614997aFmt
