import Derived.Test.Qxb6614997aFmtW10
import Derived.WalkLawsBesides
namespace Go.Proofs.Qxb6614997aFmt
open Go.RowKit

/-- the largest int's own text. -/
def mxs : List UInt8 := [57, 50, 50, 51, 51, 55, 50, 48, 51, 54, 56, 53, 52, 55, 55, 53, 56, 48, 55]
theorem mxs_eq : Pl.itoa 9223372036854775807 = mxs := by decide +kernel
theorem mxs_val : Pl.val mxs = 9223372036854775807 := by decide +kernel
def mx64 : ByteArray := ⟨mxs.toArray⟩
theorem mx64_size : mx64.size = 19 := rfl
theorem mxs_dig : ∀ c ∈ mxs, Pl.isDig c = true := by decide

theorem less_val : ∀ (a b : List UInt8), a.length = b.length → (∀ c ∈ a, Pl.isDig c = true) → (∀ c ∈ b, Pl.isDig c = true) → Op.bytesLess a b = decide (Pl.val a < Pl.val b)
  | [], [], _, _, _ => by simp [Op.bytesLess]
  | x :: a, y :: b, hl, ha, hb => by
    simp at hl
    have ih := less_val a b hl (fun c hc => ha c (by simp [hc])) (fun c hc => hb c (by simp [hc]))
    have hx := of_decide_eq_true (ha x (by simp))
    have hy := of_decide_eq_true (hb y (by simp))
    have la := Pl.val_lt a (fun c hc => ha c (by simp [hc]))
    have lb := Pl.val_lt b (fun c hc => hb c (by simp [hc]))
    rw [Op.bytesLess, ih, Pl.val_cons, Pl.val_cons, hl]
    rw [hl] at la
    generalize 10 ^ b.length = T at *
    rw [Bool.eq_iff_iff]
    simp only [Bool.or_eq_true, Bool.and_eq_true, decide_eq_true_eq, beq_iff_eq, UInt8.lt_iff_toNat_lt]
    constructor
    · rintro (h | ⟨rfl, h⟩)
      · have : (x.toNat - 48 + 1) * T ≤ (y.toNat - 48) * T := Nat.mul_le_mul_right _ (by omega)
        rw [Nat.add_mul] at this; omega
      · omega
    · intro h
      rcases Nat.lt_trichotomy x.toNat y.toNat with h1 | h1 | h1
      · exact .inl h1
      · right
        have e : x = y := UInt8.toNat_inj.1 h1
        subst e
        exact ⟨rfl, by omega⟩
      · exfalso
        have : (y.toNat - 48 + 1) * T ≤ (x.toNat - 48) * T := Nat.mul_le_mul_right _ (by omega)
        rw [Nat.add_mul] at this; omega

theorem eq_val : ∀ (a b : List UInt8), a = b → Pl.val a = Pl.val b := fun _ _ h => by rw [h]

/-- t has no leading zero: where it is too long, or as long and greater, the count is the largest int. -/
theorem sat_big (t : List UInt8) (hd : ∀ c ∈ t, Pl.isDig c = true) (h0 : t.head? ≠ some 48) (h : 19 < t.length ∨ (t.length = 19 ∧ Op.bytesLess t mxs = false)) : 9223372036854775807 ≤ Pl.val t := by
  rcases h with h | ⟨h1, h2⟩
  · cases t with
    | nil => simp at h
    | cons c t =>
      have := Pl.val_ge c t (hd c (by simp)) (fun e => h0 (by simp [e]))
      have hp : (10 : Nat) ^ 19 ≤ 10 ^ t.length := Nat.pow_le_pow_right (by omega) (by simp at h; omega)
      have : (10 : Nat) ^ 19 = 10000000000000000000 := by decide
      omega
  · rw [less_val t mxs (by rw [h1]; rfl) hd mxs_dig, mxs_val] at h2
    have := of_decide_eq_false h2
    omega

theorem sat_small (t : List UInt8) (hd : ∀ c ∈ t, Pl.isDig c = true) (h : t.length < 19 ∨ (t.length = 19 ∧ (Op.bytesLess t mxs = true ∨ t = mxs))) : Pl.val t ≤ 9223372036854775807 := by
  rcases h with h | ⟨h1, h2 | h2⟩
  · have := Pl.val_lt t hd
    have hp : (10 : Nat) ^ t.length ≤ 10 ^ 18 := Nat.pow_le_pow_right (by omega) (by omega)
    have : (10 : Nat) ^ 18 = 1000000000000000000 := by decide
    omega
  · rw [less_val t mxs (by rw [h1]; rfl) hd mxs_dig, mxs_val] at h2
    have := of_decide_eq_true h2
    omega
  · rw [h2, mxs_val]; exact Nat.le_refl _

theorem sat_cases (t m : ByteArray) (hd : ∀ c ∈ t.data.toList, Pl.isDig c = true) (h0 : t.data.toList.head? ≠ some 48) (hm : m.data.toList = mxs) :
    (19 < t.size ∧ Hid (9223372036854775807 ≤ Pl.val t.data.toList)) ∨ (t.size = 19 ∧ Op.bytesLess t.toList m.toList = false ∧ (t.toList == m.toList) = false ∧ Hid (9223372036854775807 ≤ Pl.val t.data.toList)) ∨ (t.size = 19 ∧ Op.bytesLess t.toList m.toList = true ∧ Hid (Pl.val t.data.toList ≤ 9223372036854775807)) ∨ (t.size = 19 ∧ (t.toList == m.toList) = true ∧ Hid (Pl.val t.data.toList ≤ 9223372036854775807)) ∨ (t.size < 19 ∧ Hid (Pl.val t.data.toList ≤ 9223372036854775807)) := by
  rw [ByteArray.toList_eq, ByteArray.toList_eq, hm]
  have hl : t.data.toList.length = t.size := by simp
  rcases Nat.lt_trichotomy t.size 19 with h | h | h
  · exact .inr (.inr (.inr (.inr ⟨h, hide (sat_small _ hd (.inl (by omega)))⟩)))
  · cases hb : Op.bytesLess t.data.toList mxs with
    | true => exact .inr (.inr (.inl ⟨h, rfl, hide (sat_small _ hd (.inr ⟨by omega, .inl hb⟩))⟩))
    | false =>
      cases he : t.data.toList == mxs with
      | true => exact .inr (.inr (.inr (.inl ⟨h, rfl, hide (sat_small _ hd (.inr ⟨by omega, .inr (by simpa using he)⟩))⟩)))
      | false => exact .inr (.inl ⟨h, rfl, rfl, hide (sat_big _ hd h0 (.inr ⟨by omega, hb⟩))⟩)
  · exact .inl ⟨h, hide (sat_big _ hd h0 (.inl (by omega)))⟩

theorem cnt_of (l : List UInt8) (h0 : l ≠ []) (h : ∀ c ∈ l, Pl.isDig c = true) {n : Nat} (hv : Pl.val l = n) : cntN l = (min n 9223372036854775807 : Nat) ∧ cntB l = true := by
  unfold cntN cntB
  rw [Pl.count_val l h0 h, hv]
  exact ⟨rfl, rfl⟩

theorem val_take_le (t : List UInt8) (k : Nat) : Pl.val (t.take k) ≤ Pl.val t := by
  have h := Pl.foldl_val (t.drop k) (Pl.val (t.take k))
  have e : Pl.val t = (t.drop k).foldl (fun v c => v * 10 + (c.toNat - 48)) (Pl.val (t.take k)) := by
    unfold Pl.val
    rw [← List.foldl_append, List.take_append_drop]
  rw [e, h]
  have : 1 ≤ 10 ^ (t.drop k).length := Nat.one_le_pow _ _ (by omega)
  have := Nat.le_mul_of_pos_right (Pl.val (t.take k)) (show 0 < 10 ^ (t.drop k).length by omega)
  omega

set_option maxRecDepth 100000 in
set_option maxHeartbeats 2000000 in
theorem sat_any (s : ByteArray) (w : World) (hs : s.size ≤ 1048576) :
    Calls Tryf.prog 10 #[.string s] w fun e w' => e = .returned (.tuple #[.int .i64 (cntN s.data.toList), .bool (cntB s.data.toList)]) ∧ Below w.heap.size w w' := by
  by_cases h0 : s.size = 0
  · have hl : s.data.toList = [] := by have : s.data.toList.length = 0 := by simpa using h0
                                       exact List.length_eq_zero_iff.1 this
    have hl2 : s.toList.isEmpty = true := by rw [ByteArray.toList_eq, hl]; rfl
    have h3 : cntN s.data.toList = 0 ∧ cntB s.data.toList = false := by rw [hl]; exact ⟨rfl, rfl⟩
    have H3 := hide h3
    clear h3 hl
    go_enter Tryf.func10, Tryf.ntmps10
    go_wp2
    go_ret2
    exact ⟨ret_int2 (unhide H3).1.symm (unhide H3).2.symm, Below.refl _ _⟩
  · have hne : s.data.toList ≠ [] := by intro h; apply h0; have := congrArg List.length h; simpa using this
    have hl2 : s.toList.isEmpty = false := by rw [ByteArray.toList_eq]; simpa using hne
    have HN := hide hne
    clear hne
    go_enter Tryf.func10, Tryf.ntmps10
    go_wp2
    go_loop [4] (fun i => ∃ k : Nat, k ≤ s.size ∧ i = .int .i64 k ∧ Hid ((s.data.toList.take k).all Pl.isDig = true)) (fun i => s.size - (intOf i).toNat)
    case atStart => exact ⟨0, Nat.zero_le _, rfl, rfl⟩
    case round =>
      obtain ⟨k, hk, rfl, HA⟩ := hrel
      by_cases hlt : k < s.size
      · have hts := take_snoc s k hlt
        have HD := hide (isDig_int s[k])
        have HS : Hid ((s.data.toList.take (k + 1)).all Pl.isDig = Pl.isDig s[k]) := by
          have := unhide HA
          exact hide (by rw [hts, List.all_append, this]; simp)
        have HB : Hid (Pl.isDig s[k] = false → cntN s.data.toList = 0 ∧ cntB s.data.toList = false) := hide (fun h => cnt_bad _ (all_take_false s k hlt h))
        clear hts
        go_wp2
        · go_ret2
          have hb := (unhide HB) (by rw [unhide HD]; exact decide_eq_false (by omega))
          exact ⟨ret_int2 hb.1.symm hb.2.symm, Below.refl _ _⟩
        · go_round
          case rel => exact ⟨k + 1, by omega, by go_num, by rw [unhide HS, unhide HD]; exact decide_eq_true (by omega)⟩
          case measure => simp [intOf]; omega
        · go_ret2
          have hb := (unhide HB) (by rw [unhide HD]; exact decide_eq_false (by omega))
          exact ⟨ret_int2 hb.1.symm hb.2.symm, Below.refl _ _⟩
      · have hall : ∀ c ∈ s.data.toList, Pl.isDig c = true := by
          have := unhide HA
          rw [List.take_of_length_le (by simp; omega), List.all_eq_true] at this
          exact this
        have HALL := hide hall
        clear hall HA
        go_wp2
        go_loop [5] (fun i => ∃ k : Nat, k ≤ s.size ∧ i = .int .i64 k ∧ Hid (∀ j, j < k → s.data.toList[j]? = some 48)) (fun i => s.size - (intOf i).toNat)
        case atStart => exact ⟨0, Nat.zero_le _, rfl, hide (fun j hj => absurd hj (Nat.not_lt_zero j))⟩
        case round =>
          obtain ⟨z, hz, rfl, HZ⟩ := hrel
          by_cases hgo : ∃ h : z < s.size, s[z] = 48
          · obtain ⟨hlt2, hc⟩ := hgo
            have hb : ((s[z].toNat : Int) == 48) = true := by rw [hc]; rfl
            have HZ2 : Hid (∀ j, j < z + 1 → s.data.toList[j]? = some 48) := by
              refine hide (fun j hj => ?_)
              by_cases e : j = z
              · subst e
                rw [List.getElem?_eq_getElem (by simpa using hlt2)]
                exact congrArg some hc
              · exact unhide HZ j (by omega)
            clear hc
            go_wp2
            go_round
            case rel => exact ⟨z + 1, by omega, by go_num, HZ2⟩
            case measure => simp [intOf]; omega
          · have hor : z = s.size ∨ (∃ h : z < s.size, ((s[z].toNat : Int) == 48) = false) := by
              by_cases h : z < s.size
              · right
                refine ⟨h, ?_⟩
                have hne : s[z] ≠ 48 := fun e => hgo ⟨h, e⟩
                have hne2 : s[z].toNat ≠ 48 := fun e => hne (UInt8.toNat_inj.1 (by rw [e]; rfl))
                rw [beq_eq_false_iff_ne]
                omega
              · left; omega
            clear hgo
            have hmx : mx64 = ⟨mxs.toArray⟩ := rfl
            rcases hor with rfl | ⟨hlt2, hb⟩
            · have hv : Pl.val s.data.toList = 0 := by
                rw [Pl.val_zeros s.size s.data.toList (unhide HZ), List.drop_of_length_le (by simp)]; rfl
              have HV := hide (cnt_of s.data.toList (unhide HN) (unhide HALL) hv)
              clear hv HZ
              have hsz := mx64_size
              go_wp2_with fail
              refine (zzItoa_any 9223372036854775807 _ (by omega) (by omega)).mono ?_
              rw [mxs_eq, ← hmx]
              rintro e w' ⟨rfl, hB⟩
              clear hmx
              generalize mx64 = m at hsz ⊢
              go_wp2
              go_loop [8, 9] (fun v i => v = .int .i64 0 ∧ i = .int .i64 0) (fun v i => 0)
              case atStart => exact ⟨rfl, rfl⟩
              case round =>
                obtain ⟨rfl, rfl⟩ := hrel
                go_wp2
                go_ret2
                exact ⟨ret_int2 (unhide HV).1.symm (unhide HV).2.symm, hB⟩
            · have ht : (s.extract z s.size).size = s.size - z := by simp
              have htl : (s.extract z s.size).data.toList = s.data.toList.drop z := by simp [List.take_of_length_le]
              have HT : Hid (∀ c ∈ (s.extract z s.size).data.toList, Pl.isDig c = true) := by
                rw [htl]; exact hide (fun c hc => unhide HALL c (List.mem_of_mem_drop hc))
              have HH : Hid ((s.extract z s.size).data.toList.head? ≠ some 48) := by
                rw [htl, List.head?_drop, List.getElem?_eq_getElem (by simpa using hlt2)]
                refine hide (fun e => ?_)
                have e2 : s[z] = 48 := Option.some.inj e
                rw [e2] at hb
                exact absurd hb (by decide)
              have HV : Hid (Pl.val s.data.toList = Pl.val (s.extract z s.size).data.toList) := by
                rw [htl]; exact hide (Pl.val_zeros z s.data.toList (unhide HZ))
              clear htl HZ
              have hsz := mx64_size
              go_wp2_with fail
              refine (zzItoa_any 9223372036854775807 _ (by omega) (by omega)).mono ?_
              rw [mxs_eq, ← hmx]
              rintro e w' ⟨rfl, hB⟩
              clear hb hmx
              have HM : Hid (mx64.data.toList = mxs) := hide rfl
              generalize mx64 = m at hsz HM ⊢
              have hts : (s.extract z s.size).size ≤ 1048576 := by rw [ht]; omega
              generalize s.extract z s.size = t at *
              have hbig : 9223372036854775807 ≤ Pl.val t.data.toList → (9223372036854775807 : Int) = cntN s.data.toList ∧ true = cntB s.data.toList := by
                intro h
                have := cnt_of s.data.toList (unhide HN) (unhide HALL) (unhide HV)
                rw [Nat.min_eq_right h] at this
                exact ⟨this.1.symm, this.2.symm⟩
              have HBIG := hide hbig
              clear hbig ht
              rcases sat_cases t m (unhide HT) (unhide HH) (unhide HM) with ⟨h1, H⟩ | ⟨h1, h2, h3, H⟩ | ⟨h1, h2, H⟩ | ⟨h1, h2, H⟩ | ⟨h1, H⟩
              · clear HM HH
                go_wp2
                go_ret2
                exact ⟨ret_int2 (unhide HBIG (unhide H)).1 (unhide HBIG (unhide H)).2, hB⟩
              · clear HM HH
                go_wp2
                go_ret2
                exact ⟨ret_int2 (unhide HBIG (unhide H)).1 (unhide HBIG (unhide H)).2, hB⟩
              all_goals
                have HF := hide (cnt_of s.data.toList (unhide HN) (unhide HALL) (unhide HV))
                rw [Nat.min_eq_left (unhide H)] at HF
                clear HM HH HBIG
                go_wp2
                go_loop [8, 9] (fun v i => ∃ k : Nat, k ≤ t.size ∧ i = .int .i64 k ∧ v = .int .i64 (Pl.val (t.data.toList.take k) : Nat)) (fun v i => t.size - (intOf i).toNat)
                case atStart => exact ⟨0, Nat.zero_le _, rfl, rfl⟩
                case round =>
                  obtain ⟨j, hj, rfl, rfl⟩ := hrel
                  by_cases hlt3 : j < t.size
                  · have hts2 := take_snoc t j hlt3
                    have hst : Pl.val (t.data.toList.take (j + 1)) = Pl.val (t.data.toList.take j) * 10 + (t[j].toNat - 48) := by rw [hts2, Pl.val_snoc]
                    have hle : Pl.val (t.data.toList.take j) * 10 + (t[j].toNat - 48) ≤ 9223372036854775807 := by
                      rw [← hst]; exact Nat.le_trans (val_take_le _ _) (unhide H)
                    have hdg : 48 ≤ t[j].toNat ∧ t[j].toNat ≤ 57 := of_decide_eq_true (unhide HT t[j] (by
                      have : t[j] = t.data.toList[j]'(by simpa using hlt3) := rfl
                      rw [this]; exact List.getElem_mem _))
                    obtain ⟨hd1, hd2⟩ := hdg
                    have HST := hide hst
                    clear hst hts2
                    generalize hgv : Pl.val (t.data.toList.take j) = n at *
                    clear hgv
                    go_wp2
                    go_round
                    case rel => exact ⟨j + 1, by omega, by go_num, by rw [unhide HST]; exact congrArg _ (by omega)⟩
                    case measure => simp [intOf]; omega
                  · have hfin : t.data.toList.take j = t.data.toList := List.take_of_length_le (by simp; omega)
                    rw [hfin]
                    go_wp2
                    go_ret2
                    exact ⟨ret_int2 (unhide HF).1.symm (unhide HF).2.symm, hB⟩
end Go.Proofs.Qxb6614997aFmt
