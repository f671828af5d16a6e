import Derived.Test.Qxb6606071aDoorB6
/- zzIntValue. -/
namespace Go.Proofs.Qxb6606071aDoor.Fl
open Go Go.RowKit

/-- the number with its sign, where it fits an int64. -/
def intV (neg : Bool) (n : Nat) : Int × Bool :=
  if neg then (if 9223372036854775808 < n then (0, false) else (-(n : Int), true)) else (if 9223372036854775808 ≤ n then (0, false) else ((n : Int), true))

theorem dv_ge : ∀ (l : List UInt8) (acc : Nat), acc ≤ dv l acc
  | [], acc => Nat.le_refl _
  | c :: l, acc => by
    have := dv_ge l (acc * 10 + (c.toNat - 48))
    show acc ≤ dv l (acc * 10 + (c.toNat - 48))
    omega

theorem neg_wrap (v : Nat) (h : v ≤ 9223372036854775808) : wrap64 (IntKind.u64.wrap (-(v : Int))) = -(v : Int) := by
  rw [wrap_u64_mod]
  unfold wrap64
  omega
theorem pos_wrap (v : Nat) (h : v < 9223372036854775808) : wrap64 (v : Int) = (v : Int) := by
  unfold wrap64
  omega

/-- what zzIntValue knows behind digits that write acc. -/
def IntKnown (sig acc : Nat) : Prop := sig ≤ 19 ∧ acc < 10 ^ sig ∧ (sig = 0 ∨ 10 ^ (sig - 1) ≤ acc)
theorem IntKnown.step {sig acc : Nat} (h : IntKnown sig acc) (d : Nat) (hd : d ≤ 9) (h0 : ¬ (sig = 0 ∧ d = 0)) (h19 : sig < 19) : IntKnown (sig + 1) (acc * 10 + d) := by
  obtain ⟨h1, h2, h3⟩ := h
  have hpe : 10 ^ (sig + 1) = 10 ^ sig * 10 := Nat.pow_succ ..
  refine ⟨by omega, by omega, .inr ?_⟩
  rw [Nat.add_sub_cancel]
  by_cases hs : sig = 0
  · subst hs
    show 1 ≤ _
    omega
  · obtain ⟨k, hk⟩ : ∃ k, sig = k + 1 := ⟨sig - 1, by omega⟩
    rcases h3 with h3 | h3
    · omega
    · rw [hk, Nat.add_sub_cancel] at h3
      rw [hk, Nat.pow_succ]
      omega
theorem IntKnown.small {sig acc : Nat} (h : IntKnown sig acc) : acc < 10000000000000000000 := by
  obtain ⟨h1, h2, _⟩ := h
  have : 10 ^ sig ≤ 10 ^ 19 := Nat.pow_le_pow_right (by decide) h1
  have e : (10 : Nat) ^ 19 = 10000000000000000000 := by decide
  omega
theorem IntKnown.full {acc : Nat} (h : IntKnown 19 acc) : 1000000000000000000 ≤ acc := by
  obtain ⟨_, _, h3⟩ := h
  have e : (10 : Nat) ^ 18 = 1000000000000000000 := by decide
  rcases h3 with h3 | h3
  · omega
  · have : (10 : Nat) ^ (19 - 1) = 10 ^ 18 := rfl
    omega

set_option maxHeartbeats 2000000 in
set_option maxRecDepth 100000 in
theorem intValue_any (sg b : ByteArray) (neg : Bool) (hsg : (sg.toList == [45]) = neg) (hb : b.size ≤ 1048576) (hd : allDig b.data.toList) (w : World) :
    Calls Tryd.prog 12 #[.string sg, .string b] w fun e w' => e = .returned (.tuple #[.int .i64 (intV neg (dv b.data.toList 0)).1, .bool (intV neg (dv b.data.toList 0)).2]) ∧ w' = w := by
  have HD : Hid (∀ i (h : i < b.size), isDig (b[i]'h)) := fun i h => hd _ (by
    have hl : i < b.data.toList.length := by rw [Array.length_toList]; exact h
    exact List.getElem_mem hl)
  obtain ⟨N, hN⟩ : ∃ N, dv b.data.toList 0 = N := ⟨_, rfl⟩
  rw [hN]
  obtain ⟨r, ok, hV⟩ : ∃ r ok, intV neg N = (r, ok) := ⟨_, _, rfl⟩
  rw [hV]
  have HV := hide hV
  clear hV
  have HN : Hid (dv (b.data.toList.drop 0) 0 = N) := by rw [List.drop_zero]; exact hN
  have HS := hide hsg
  clear hd hN hsg
  go_enter Tryd.func12, Tryd.ntmps12
  go_wp2
  go_loopg [6, 7, 8, 9] b.size (fun gf s6 s7 s8 s9 wx => ∃ (i v sig : Nat), i + gf = b.size ∧ s6 = .int .u64 v ∧ s7 = .int .i64 sig ∧ s8 = .int .i64 i ∧ sig ≤ 19 ∧ v < 10000000000000000000 ∧ Hid (IntKnown sig v ∧ dv (b.data.toList.drop i) v = N) ∧ wx = w)
  case atStart => exact ⟨0, 0, 0, by omega, rfl, rfl, rfl, by omega, by omega, ⟨⟨by decide, by decide, .inl rfl⟩, unhide HN⟩, rfl⟩
  case round =>
    obtain ⟨i, v, sig, hig, rfl, rfl, rfl, hs19, hv, HH, rfl⟩ := hrel
    cases gk with
    | zero =>
      obtain rfl : i = b.size := by omega
      have hiz : ¬ ((b.size : Int) < (b.size : Int)) := by omega
      have hNv : v = N := by
        have h := (unhide HH).2
        rw [List.drop_eq_nil_of_le (by rw [Array.length_toList]; exact Nat.le_refl _)] at h
        exact h
      subst hNv
      cases neg
      · have hneb := unhide HS
        by_cases hc : 9223372036854775808 ≤ v
        · have hcz : (9223372036854775807 : Int) < (v : Int) := by omega
          have HV2 := hide (show ((0 : Int), false) = (r, ok) by have h := unhide HV; unfold intV at h; rw [if_neg (by decide), if_pos hc] at h; exact h)
          go_wp2
          go_ret2
          obtain ⟨rfl, rfl⟩ := Prod.mk.inj (unhide HV2)
          exact ⟨rfl, rfl⟩
        · have hcz : ¬ ((9223372036854775807 : Int) < (v : Int)) := by omega
          have hw := pos_wrap v (by omega)
          have HV2 := hide (show ((v : Int), true) = (r, ok) by have h := unhide HV; unfold intV at h; rw [if_neg (by decide), if_neg hc] at h; exact h)
          go_wp2
          go_ret2
          obtain ⟨rfl, rfl⟩ := Prod.mk.inj (unhide HV2)
          exact ⟨rfl, rfl⟩
      · have hneb := unhide HS
        by_cases hc : 9223372036854775808 < v
        · have hcz : (9223372036854775808 : Int) < (v : Int) := by omega
          have HV2 := hide (show ((0 : Int), false) = (r, ok) by have h := unhide HV; unfold intV at h; rw [if_pos rfl, if_pos hc] at h; exact h)
          go_wp2
          go_ret2
          obtain ⟨rfl, rfl⟩ := Prod.mk.inj (unhide HV2)
          exact ⟨rfl, rfl⟩
        · have hcz : ¬ ((9223372036854775808 : Int) < (v : Int)) := by omega
          have hw := neg_wrap v (by omega)
          have HV2 := hide (show (-(v : Int), true) = (r, ok) by have h := unhide HV; unfold intV at h; rw [if_pos rfl, if_neg hc] at h; exact h)
          go_wp2
          go_ret2
          obtain ⟨rfl, rfl⟩ := Prod.mk.inj (unhide HV2)
          exact ⟨rfl, rfl⟩
    | succ g =>
      have hi : i < b.size := by omega
      have hiz : (i : Int) < (b.size : Int) := by omega
      obtain ⟨c, hc⟩ : ∃ c : UInt8, b[i]'hi = c := ⟨_, rfl⟩
      have hcd := unhide HD i hi
      have HE : Hid (dv (b.data.toList.drop (i + 1)) (v * 10 + (c.toNat - 48)) = N) := by
        have h := (unhide HH).2
        rw [drop_cons b i hi, hc] at h
        exact h
      rw [hc] at hcd
      unfold isDig at hcd
      obtain ⟨d, hdd, hd9⟩ : ∃ d : Nat, c.toNat = d + 48 ∧ d ≤ 9 := ⟨c.toNat - 48, by omega, by omega⟩
      have HC := hide hdd
      have hcz : (c.toNat : Int) = (d : Int) + 48 := by omega
      rw [show c.toNat - 48 = d by omega] at HE
      clear hcd hdd
      by_cases h0 : sig = 0 ∧ d = 0
      · have HK := hide (unhide HH).1
        obtain ⟨rfl, rfl⟩ := h0
        have hv0 : v = 0 := by
          have h := (unhide HK).2.1
          have e : (10 : Nat) ^ 0 = 1 := rfl
          omega
        subst hv0
        go_wp2
        go_roundg g
        case measure => omega
        case rel => exact ⟨i + 1, 0, 0, by omega, rfl, rfl, by go_num, by omega, by omega, ⟨unhide HK, unhide HE⟩, rfl⟩
      · have HK := hide (unhide HH).1
        by_cases h19 : sig < 19
        · have HK2 := hide ((unhide HK).step d hd9 h0 h19)
          have hv2 := (unhide HK2).small
          have h19z : ¬ ((19 : Int) < (sig : Int) + 1) := by omega
          have hw1 : IntKind.u64.wrap ((v : Int) * 10) = (v : Int) * 10 := wrap_u64 _ (by omega) (by have := (unhide HK).small; have h2 := (unhide HK).1; omega)
          have hw2 : IntKind.u64.wrap ((v : Int) * 10 + (d : Int)) = (v : Int) * 10 + (d : Int) := wrap_u64 _ (by omega) (by omega)
          by_cases hs0 : sig = 0
          · subst hs0
            have hdz : ¬ ((d : Int) = 0) := by omega
            go_wp2
            go_roundg g
            case measure => omega
            case rel => exact ⟨i + 1, v * 10 + d, 0 + 1, by omega, by go_num, by go_num, by go_num, by omega, by omega, ⟨unhide HK2, unhide HE⟩, rfl⟩
          · have hsz : ¬ ((sig : Int) = 0) := by omega
            go_wp2
            go_roundg g
            case measure => omega
            case rel => exact ⟨i + 1, v * 10 + d, sig + 1, by omega, by go_num, by go_num, by go_num, by omega, by omega, ⟨unhide HK2, unhide HE⟩, rfl⟩
        · obtain rfl : sig = 19 := by omega
          have hbig : 10000000000000000000 ≤ N := by
            have h1 := (unhide HK).full
            have h2 := dv_ge (b.data.toList.drop (i + 1)) (v * 10 + d)
            rw [unhide HE] at h2
            omega
          have hans : intV neg N = (0, false) := by
            unfold intV
            cases neg
            · rw [if_neg (by decide), if_pos (by omega)]
            · rw [if_pos rfl, if_pos (by omega)]
          have HV2 := hide (hans.symm.trans (unhide HV))
          go_wp2
          go_ret2
          obtain ⟨rfl, rfl⟩ := Prod.mk.inj (unhide HV2)
          exact ⟨rfl, rfl⟩
end Go.Proofs.Qxb6606071aDoor.Fl
