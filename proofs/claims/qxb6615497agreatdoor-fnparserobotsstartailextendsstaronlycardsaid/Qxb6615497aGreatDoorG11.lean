import Derived.Test.Qxb6615497aGreatDoorG10
import Derived.Test.Qxb6615497aGreatDoorW3
import Derived.Shelf.Spec.BytesIndexFunc
/- strings.EqualFold: the walk. -/
namespace Go.Proofs.Qxb6615497aGreatDoor
open Go Go.RowKit

theorem sDom_next {r : Nat} (h : sDom r) : sDom (sF r) := by
  rcases h with h | rfl | rfl
  · exact (fold_ring r h).2.1
  · exact .inl (by decide)
  · exact .inl (by decide)

set_option maxHeartbeats 4000000 in
set_option maxRecDepth 100000 in
theorem equalFold_any (s t : ByteArray) (hs : s.size ≤ 16777216) (ht : t.size ≤ 16777216) (ha : ∀ i (h : i < s.size), (s[i]'h).toNat < 128) (w : World) (hT : FoldTabs w) (hU : Lib.Utf8Tabs 4 5 w) :
    Calls Tryz.prog 30 #[.string s, .string t] w fun e w' => e = .returned (.bool (foldE s t)) ∧ Below w.heap.size w w' := by
  have HA := hide ha
  have HT := hide (And.intro hT hU)
  obtain ⟨n, hn⟩ : ∃ n : Nat, min s.size t.size = n := ⟨_, rfl⟩
  have hmin : min (s.size : Int) (t.size : Int) = (n : Int) := by omega
  have HN := hide hn
  clear ha hT hU hn
  go_enter Tryz.func30, Tryz.ntmps30
  go_wp2
  refine wp_scope_one'' 0 rfl ?_
  intro J HJ
  go_wp2
  go_loopg [5, 7, 8] s.size (fun gf s5 s7 s8 wx => ∃ i : Nat, s5 = .int .i64 i ∧ i ≤ n ∧ i + gf = s.size ∧ Hid (efA s t gf i = foldE s t) ∧ wx = w)
  case atStart => exact ⟨0, rfl, by omega, by omega, rfl, rfl⟩
  case round =>
    obtain ⟨i, rfl, hin, hig, HE, rfl⟩ := hrel
    have hns : n ≤ s.size ∧ n ≤ t.size := by have := unhide HN; omega
    by_cases hlt : i < n
    · obtain ⟨g, rfl⟩ : ∃ g, gk = g + 1 := ⟨gk - 1, by omega⟩
      have his : i < s.size := by omega
      have hit : i < t.size := by omega
      have z1 : (i : Int) < (n : Int) := by omega
      have z2 : (i : Int) < (s.size : Int) := by omega
      have z3 : (i : Int) < (t.size : Int) := by omega
      obtain ⟨a, hae⟩ : ∃ a : UInt8, s[i]'his = a := ⟨_, rfl⟩
      obtain ⟨b, hbe⟩ : ∃ b : UInt8, t[i]'hit = b := ⟨_, rfl⟩
      have ha8 := unhide HA i his
      rw [hae] at ha8
      have hstep : efA s t (g + 1) i = if 128 ≤ b.toNat then efU (s.data.toList.drop i) (t.extract i t.size) else if b.toNat = a.toNat then efA s t g (i + 1) else if asciiPair a.toNat b.toNat then efA s t g (i + 1) else false := by
        show (if i < s.size ∧ i < t.size then _ else _) = _
        rw [if_pos ⟨his, hit⟩, get_bang s i his, get_bang t i hit, hae, hbe]
      have HS := hide (hstep.symm.trans (unhide HE))
      clear hstep
      by_cases hb8 : 128 ≤ b.toNat
      · rw [if_pos hb8] at HS
        have hor : 128 ≤ bits .or .u8 (a.toNat : Int) (b.toNat : Int) := by rw [or8 a b ha8]; exact hb8
        go_wp2
        go_step3
        refine ⟨rfl, unhide HJ _ _ ?_⟩
        go_wp2
        obtain ⟨S, hS⟩ : ∃ S : ByteArray, s.extract i s.size = S := ⟨_, rfl⟩
        obtain ⟨tt0, htt0⟩ : ∃ tt0 : ByteArray, t.extract i t.size = tt0 := ⟨_, rfl⟩
        have hSz : S.size ≤ 16777216 := by rw [← hS, size_ext s i s.size (by omega) (by omega)]; omega
        have htz0 : tt0.size ≤ 16777216 := by rw [← htt0, size_ext t i t.size (by omega) (by omega)]; omega
        have HSA := hide (show ∀ k (h : k < S.size), (S[k]'h).toNat < 128 by
          subst hS
          intro k hk
          have hz := size_ext s i s.size (by omega) (by omega)
          rw [get_ext s i s.size k (by omega) (by omega)]
          exact unhide HA (i + k) (by omega))
        have HS0 := hide (show efU (S.data.toList.drop 0) tt0 = foldE s t by
          rw [List.drop_zero, ← unhide HS, htt0]
          congr 1
          rw [← hS, Lib.extract_data, List.take_of_length_le]
          rw [List.length_drop, Array.length_toList]
          exact Nat.le_refl _)
        have hnotEmpty := htz0
        rw [hS, htt0]
        clear hS htt0 HS HE hor hb8 hnotEmpty
        obtain ⟨w0, rfl⟩ : ∃ w0, w0 = wr := ⟨_, rfl⟩
        go_loopg [1, 10, 11, 12, 13] S.size (fun gf s1 s10 s11 s12 s13 wx => ∃ (pos : Nat) (tt : ByteArray), s1 = .string tt ∧ pos + gf = S.size ∧ tt.size ≤ 16777216 ∧ Hid (wx.heap[w0.heap.size]? = some (.stringIter S pos) ∧ Below w0.heap.size w0 wx ∧ efU (S.data.toList.drop pos) tt = foldE s t))
        case atStart => exact ⟨0, tt0, rfl, by omega, htz0, World.iter_heap w0 S 0, (Below.refl _ w0).alloc (Nat.le_refl _) _, unhide HS0⟩
        case round =>
          obtain ⟨pos, tt, rfl, hpg, htz, HH⟩ := hrel
          have hit := (unhide HH).1
          by_cases hps : pos < S.size
          · obtain ⟨g, rfl⟩ : ∃ g, gk = g + 1 := ⟨gk - 1, by omega⟩
            have hnx : ∀ ty, (Instr.next (.pointer (some ⟨w0.heap.size, 0, none⟩)) true ty).run Tryz.prog wr = _ := fun ty => Lib.run_next_any_at wr w0.heap.size S pos ty hit hps
            obtain ⟨x, hx⟩ : ∃ x : UInt8, S[pos]'hps = x := ⟨_, rfl⟩
            have hx8 := unhide HSA pos hps
            rw [hx] at hx8
            have hdec : Utf8.decode S pos = (x.toNat, 1) := by rw [decode_low S pos hps (by rw [hx]; exact hx8), hx]
            rw [hdec] at hnx
            have hit2 := Lib.iterAt_heap wr w0.heap.size S pos (pos + 1) hit
            have hbw2 := Lib.below_iterAt (unhide HH).2.1 (k := w0.heap.size) (Nat.le_refl _) S (pos + 1)
            obtain ⟨W, hWd⟩ : ∃ W, wr.iterAt w0.heap.size S (pos + 1) = W := ⟨_, rfl⟩
            rw [hWd] at hnx hit2 hbw2
            have HW := hide (And.intro hit2 hbw2)
            have hdrop : S.data.toList.drop pos = x :: S.data.toList.drop (pos + 1) := by
              have hl : pos < S.data.toList.length := by rw [Array.length_toList]; exact hps
              rw [List.drop_eq_getElem_cons hl]
              congr 1
            have hef := (unhide HH).2.2
            rw [hdrop] at hef
            unfold efU at hef
            clear hit hit2 hbw2 hdrop hdec
            by_cases ht0 : tt.size = 0
            · rw [if_pos ht0] at hef
              have HEF := hide hef
              have ht0z : (tt.size : Int) = 0 := by omega
              clear hef
              go_wp2
              try rw [Exit.noGoto_ret]
              go_ret
              exact ⟨by rw [← unhide HEF]; rfl, (unhide HW).2⟩
            · rw [if_neg ht0] at hef
              have ht0z : ((tt.size : Int) == 0) = false := by rw [beq_eq_false_iff_ne]; omega
              have hte : ¬ (tt = ByteArray.empty) := by rintro rfl; exact ht0 rfl
              obtain ⟨tr, htr⟩ : ∃ tr, (Utf8.decode tt 0).1 = tr := ⟨_, rfl⟩
              obtain ⟨K2, hK2⟩ : ∃ K2, (Utf8.decode tt 0).2 = K2 := ⟨_, rfl⟩
              have hKle : K2 ≤ tt.size := by
                have h := Lib.decodeN_le_n' (tt.size - 0) (tt.get! 0).toNat (tt.get! (0 + 1)).toNat (tt.get! (0 + 2)).toNat (tt.get! (0 + 3)).toNat (by omega)
                rw [← Lib.decode_at, hK2] at h
                omega
              have HD := hide (show Calls Tryz.prog 53 #[.string tt] W fun e w' => e = .returned (.tuple #[.int .i32 tr, .int .i64 K2]) ∧ Below W.heap.size W w' by
                have c := Any.utf8_DecodeRuneInString (P := Tryz.prog) (ρ := Tryz.lays164_ren) { Tryz.lays164 with } tt W (Utf8Tabs_below (unhide HT).2 (unhide HW).2)
                have e : Lib.decodeGo tt = Utf8.decode tt 0 := by
                  have h := decodeGo_tail tt 0 (by omega)
                  rwa [show tt.extract 0 tt.size = tt by simp] at h
                rw [e, htr, hK2] at c
                exact c)
              rw [htr, hK2] at hef
              clear htr hK2
              have hKz : (K2 : Int) ≤ (tt.size : Int) := by omega
              by_cases htx : tr = x.toNat
              · rw [show okPair x.toNat tr = true by unfold okPair; rw [if_pos htx], if_pos rfl] at hef
                have htxz : ((tr : Int) == (x.toNat : Int)) = true := by simp; omega
                have HEF := hide hef
                clear hef htx
                go_wp2_with (first | (go_at_call 53; refine (unhide HD).mono ?_; rintro e W3 ⟨rfl, hb3⟩; have HW3 := hide (And.intro ((hb3.block _ (Array.getElem?_eq_some_iff.1 (unhide HW).1).1).trans (unhide HW).1) ((unhide HW).2.trans (hb3.mono (unhide HW).2.size))); clear hb3))
                go_roundg g
                case measure => omega
                case rel => exact ⟨pos + 1, tt.extract K2 tt.size, rfl, by omega, by rw [size_ext tt K2 tt.size hKle (Nat.le_refl _)]; omega, (unhide HW3).1, (unhide HW3).2, unhide HEF⟩
              · have htxz : ((tr : Int) == (x.toNat : Int)) = false := by simp; omega
                by_cases ht8 : tr < 128
                · have ht8z : (tr : Int) < 128 := by omega
                  have hx8z : (x.toNat : Int) < 128 := by omega
                  rw [show okPair x.toNat tr = asciiPair x.toNat tr by unfold okPair; rw [if_neg htx, if_pos ht8]] at hef
                  by_cases hsw : tr < x.toNat
                  · have hswz : (tr : Int) < (x.toNat : Int) := by omega
                    have hmn : min x.toNat tr = tr := by omega
                    have hmx : max x.toNat tr = x.toNat := by omega
                    rw [show asciiPair x.toNat tr = (decide (65 ≤ tr) && decide (tr ≤ 90) && (x.toNat == tr + 32)) by unfold asciiPair; rw [hmn, hmx]] at hef
                    clear hmn hmx htx
                    by_cases l1 : 65 ≤ tr
                    · have l1z : (65 : Int) ≤ (tr : Int) := by omega
                      by_cases l2 : tr ≤ 90
                      · have l2z : (tr : Int) ≤ 90 := by omega
                        by_cases l3 : x.toNat = tr + 32
                        · rw [decide_eq_true l1, decide_eq_true l2, show (x.toNat == tr + 32) = true by simpa using l3] at hef
                          have l3z : ((x.toNat : Int) == (tr : Int) + 32) = true := by simp; omega
                          clear l3
                          have HEF := hide (show efU (S.data.toList.drop (pos + 1)) (tt.extract K2 tt.size) = foldE s t from hef)
                          clear hef
                          go_wp2_with (first | (go_at_call 53; refine (unhide HD).mono ?_; rintro e W3 ⟨rfl, hb3⟩; have HW3 := hide (And.intro ((hb3.block _ (Array.getElem?_eq_some_iff.1 (unhide HW).1).1).trans (unhide HW).1) ((unhide HW).2.trans (hb3.mono (unhide HW).2.size))); clear hb3))
                          go_roundg g
                          case measure => omega
                          case rel => exact ⟨pos + 1, tt.extract K2 tt.size, rfl, by omega, by rw [size_ext tt K2 tt.size hKle (Nat.le_refl _)]; omega, (unhide HW3).1, (unhide HW3).2, unhide HEF⟩
                        · rw [decide_eq_true l1, decide_eq_true l2, show (x.toNat == tr + 32) = false by simpa using l3] at hef
                          have l3z : ((x.toNat : Int) == (tr : Int) + 32) = false := by simp; omega
                          have HEF := hide (show false = foldE s t from hef)
                          clear hef
                          go_wp2_with (first | (go_at_call 53; refine (unhide HD).mono ?_; rintro e W3 ⟨rfl, hb3⟩; have HW3 := hide (And.intro ((hb3.block _ (Array.getElem?_eq_some_iff.1 (unhide HW).1).1).trans (unhide HW).1) ((unhide HW).2.trans (hb3.mono (unhide HW).2.size))); clear hb3))
                          try rw [Exit.noGoto_ret]
                          go_ret
                          exact ⟨by rw [← unhide HEF]; rfl, (unhide HW3).2⟩
                      · have l2z : ¬ ((tr : Int) ≤ 90) := by omega
                        rw [decide_eq_true l1, decide_eq_false l2] at hef
                        have HEF := hide (show false = foldE s t from hef)
                        clear hef
                        go_wp2_with (first | (go_at_call 53; refine (unhide HD).mono ?_; rintro e W3 ⟨rfl, hb3⟩; have HW3 := hide (And.intro ((hb3.block _ (Array.getElem?_eq_some_iff.1 (unhide HW).1).1).trans (unhide HW).1) ((unhide HW).2.trans (hb3.mono (unhide HW).2.size))); clear hb3))
                        try rw [Exit.noGoto_ret]
                        go_ret
                        exact ⟨by rw [← unhide HEF]; rfl, (unhide HW3).2⟩
                    · have l1z : ¬ ((65 : Int) ≤ (tr : Int)) := by omega
                      rw [decide_eq_false l1] at hef
                      have HEF := hide (show false = foldE s t from hef)
                      clear hef
                      go_wp2_with (first | (go_at_call 53; refine (unhide HD).mono ?_; rintro e W3 ⟨rfl, hb3⟩; have HW3 := hide (And.intro ((hb3.block _ (Array.getElem?_eq_some_iff.1 (unhide HW).1).1).trans (unhide HW).1) ((unhide HW).2.trans (hb3.mono (unhide HW).2.size))); clear hb3))
                      try rw [Exit.noGoto_ret]
                      go_ret
                      exact ⟨by rw [← unhide HEF]; rfl, (unhide HW3).2⟩
                  · have hswz : ¬ ((tr : Int) < (x.toNat : Int)) := by omega
                    have hmn : min x.toNat tr = x.toNat := by omega
                    have hmx : max x.toNat tr = tr := by omega
                    rw [show asciiPair x.toNat tr = (decide (65 ≤ x.toNat) && decide (x.toNat ≤ 90) && (tr == x.toNat + 32)) by unfold asciiPair; rw [hmn, hmx]] at hef
                    clear hmn hmx htx
                    by_cases l1 : 65 ≤ x.toNat
                    · have l1z : (65 : Int) ≤ (x.toNat : Int) := by omega
                      by_cases l2 : x.toNat ≤ 90
                      · have l2z : (x.toNat : Int) ≤ 90 := by omega
                        by_cases l3 : tr = x.toNat + 32
                        · rw [decide_eq_true l1, decide_eq_true l2, show (tr == x.toNat + 32) = true by simpa using l3] at hef
                          have l3z : ((tr : Int) == (x.toNat : Int) + 32) = true := by simp; omega
                          clear l3
                          have HEF := hide (show efU (S.data.toList.drop (pos + 1)) (tt.extract K2 tt.size) = foldE s t from hef)
                          clear hef
                          go_wp2_with (first | (go_at_call 53; refine (unhide HD).mono ?_; rintro e W3 ⟨rfl, hb3⟩; have HW3 := hide (And.intro ((hb3.block _ (Array.getElem?_eq_some_iff.1 (unhide HW).1).1).trans (unhide HW).1) ((unhide HW).2.trans (hb3.mono (unhide HW).2.size))); clear hb3))
                          go_roundg g
                          case measure => omega
                          case rel => exact ⟨pos + 1, tt.extract K2 tt.size, rfl, by omega, by rw [size_ext tt K2 tt.size hKle (Nat.le_refl _)]; omega, (unhide HW3).1, (unhide HW3).2, unhide HEF⟩
                        · rw [decide_eq_true l1, decide_eq_true l2, show (tr == x.toNat + 32) = false by simpa using l3] at hef
                          have l3z : ((tr : Int) == (x.toNat : Int) + 32) = false := by simp; omega
                          have HEF := hide (show false = foldE s t from hef)
                          clear hef
                          go_wp2_with (first | (go_at_call 53; refine (unhide HD).mono ?_; rintro e W3 ⟨rfl, hb3⟩; have HW3 := hide (And.intro ((hb3.block _ (Array.getElem?_eq_some_iff.1 (unhide HW).1).1).trans (unhide HW).1) ((unhide HW).2.trans (hb3.mono (unhide HW).2.size))); clear hb3))
                          try rw [Exit.noGoto_ret]
                          go_ret
                          exact ⟨by rw [← unhide HEF]; rfl, (unhide HW3).2⟩
                      · have l2z : ¬ ((x.toNat : Int) ≤ 90) := by omega
                        rw [decide_eq_true l1, decide_eq_false l2] at hef
                        have HEF := hide (show false = foldE s t from hef)
                        clear hef
                        go_wp2_with (first | (go_at_call 53; refine (unhide HD).mono ?_; rintro e W3 ⟨rfl, hb3⟩; have HW3 := hide (And.intro ((hb3.block _ (Array.getElem?_eq_some_iff.1 (unhide HW).1).1).trans (unhide HW).1) ((unhide HW).2.trans (hb3.mono (unhide HW).2.size))); clear hb3))
                        try rw [Exit.noGoto_ret]
                        go_ret
                        exact ⟨by rw [← unhide HEF]; rfl, (unhide HW3).2⟩
                    · have l1z : ¬ ((65 : Int) ≤ (x.toNat : Int)) := by omega
                      rw [decide_eq_false l1] at hef
                      have HEF := hide (show false = foldE s t from hef)
                      clear hef
                      go_wp2_with (first | (go_at_call 53; refine (unhide HD).mono ?_; rintro e W3 ⟨rfl, hb3⟩; have HW3 := hide (And.intro ((hb3.block _ (Array.getElem?_eq_some_iff.1 (unhide HW).1).1).trans (unhide HW).1) ((unhide HW).2.trans (hb3.mono (unhide HW).2.size))); clear hb3))
                      try rw [Exit.noGoto_ret]
                      go_ret
                      exact ⟨by rw [← unhide HEF]; rfl, (unhide HW3).2⟩
                · have ht8z : ¬ ((tr : Int) < 128) := by omega
                  have hswz : ¬ ((tr : Int) < (x.toNat : Int)) := by omega
                  rw [show okPair x.toNat tr = (ring x.toNat tr 2 (sF x.toNat) == tr) by unfold okPair; rw [if_neg htx, if_neg ht8]] at hef
                  have HEFC := hide hef
                  obtain ⟨fr1, fr2, fr3⟩ := fold_ring x.toNat hx8
                  have HFR := hide (And.intro fr1 fr2)
                  have HFS := hide simpleFold_any
                  clear hef htx fr1 fr2 fr3
                  go_wp2_with (first | (go_at_call 53; refine (unhide HD).mono ?_; rintro e W3 ⟨rfl, hb3⟩; have HW3 := hide (And.intro ((hb3.block _ (Array.getElem?_eq_some_iff.1 (unhide HW).1).1).trans (unhide HW).1) ((unhide HW).2.trans (hb3.mono (unhide HW).2.size))); clear hb3) | (go_at_call 54; refine (unhide HFS _ (.inl hx8) _ ((unhide HT).1.stay (Nat.le_refl _) (unhide HW3).2)).mono ?_; rintro e w' ⟨rfl, hw⟩; obtain rfl := hw.symm))
                  go_loopg [13] 2 (fun gf s13 wx => ∃ r : Nat, s13 = .int .i32 r ∧ Hid (sDom r ∧ reach x.toNat gf r = true ∧ ring x.toNat tr gf r = ring x.toNat tr 2 (sF x.toNat)) ∧ wx = W3)
                  case atStart => exact ⟨sF x.toNat, rfl, ⟨(unhide HFR).2, (unhide HFR).1, rfl⟩, rfl⟩
                  case round =>
                    obtain ⟨r, rfl, HR, rfl⟩ := hrel
                    by_cases hc : r ≠ x.toNat ∧ r < tr
                    · cases gk with
                      | zero =>
                        have h := (unhide HR).2.1
                        simp [reach] at h
                        exact absurd h hc.1
                      | succ g' =>
                        have hdom := (unhide HR).1
                        have HNx := hide (show sDom (sF r) ∧ reach x.toNat g' (sF r) = true ∧ ring x.toNat tr g' (sF r) = ring x.toNat tr 2 (sF x.toNat) by
                          refine ⟨sDom_next hdom, ?_, ?_⟩
                          · have h := (unhide HR).2.1
                            unfold reach at h
                            rw [show (r == x.toNat) = false by simpa using hc.1, Bool.false_or] at h
                            exact h
                          · rw [← (unhide HR).2.2]
                            conv => rhs; unfold ring
                            rw [if_pos hc])
                        have c1 : ((r : Int) == (x.toNat : Int)) = false := by rw [beq_eq_false_iff_ne]; omega
                        have c1b : ((r : Int) != (x.toNat : Int)) = true := by rw [bne, c1]; rfl
                        have c2 : (r : Int) < (tr : Int) := by omega
                        have HDm := hide hdom
                        clear hc hdom
                        go_wp2_with (go_at_call 54; refine (unhide HFS _ (unhide HDm) _ ((unhide HT).1.stay (Nat.le_refl _) (unhide HW3).2)).mono ?_; rintro e w' ⟨rfl, hw⟩; obtain rfl := hw.symm)
                        go_roundg g'
                        case measure => omega
                        case rel => exact ⟨sF r, rfl, HNx, rfl⟩
                    · have hrr : ring x.toNat tr gk r = r := by
                        cases gk with
                        | zero => rfl
                        | succ g' => unfold ring; rw [if_neg hc]
                      by_cases hrx : r = x.toNat
                      · have c1 : ((r : Int) == (x.toNat : Int)) = true := by rw [beq_iff_eq]; omega
                        have c1b : ((r : Int) != (x.toNat : Int)) = false := by rw [bne, c1]; rfl
                        have hrt : ¬ (r = tr) := by omega
                        clear hc hrx
                        rw [show (ring x.toNat tr 2 (sF x.toNat) == tr) = false by rw [← (unhide HR).2.2, hrr]; simpa using hrt, if_neg (by decide)] at HEFC
                        have HEF := HEFC
                        have hrtz : ((r : Int) == (tr : Int)) = false := by rw [beq_eq_false_iff_ne]; omega
                        go_wp2
                        try rw [Exit.noGoto_ret]
                        go_ret
                        exact ⟨by rw [← unhide HEF]; rfl, (unhide HW3).2⟩
                      · have c1 : ((r : Int) == (x.toNat : Int)) = false := by rw [beq_eq_false_iff_ne]; omega
                        have c1b : ((r : Int) != (x.toNat : Int)) = true := by rw [bne, c1]; rfl
                        have c2 : ¬ ((r : Int) < (tr : Int)) := by omega
                        clear hc hrx
                        by_cases hrt : r = tr
                        · rw [show (ring x.toNat tr 2 (sF x.toNat) == tr) = true by rw [← (unhide HR).2.2, hrr]; simpa using hrt, if_pos rfl] at HEFC
                          have HEF := HEFC
                          have hrtz : ((r : Int) == (tr : Int)) = true := by simp; omega
                          clear hrt
                          go_wp2
                          go_roundg g
                          case measure => omega
                          case rel => exact ⟨pos + 1, tt.extract K2 tt.size, rfl, by omega, by rw [size_ext tt K2 tt.size hKle (Nat.le_refl _)]; omega, (unhide HW3).1, (unhide HW3).2, unhide HEF⟩
                        · rw [show (ring x.toNat tr 2 (sF x.toNat) == tr) = false by rw [← (unhide HR).2.2, hrr]; simpa using hrt, if_neg (by decide)] at HEFC
                          have HEF := HEFC
                          have hrtz : ((r : Int) == (tr : Int)) = false := by simp; omega
                          go_wp2
                          try rw [Exit.noGoto_ret]
                          go_ret
                          exact ⟨by rw [← unhide HEF]; rfl, (unhide HW3).2⟩
          · have hgk : gk = 0 := by omega
            subst hgk
            obtain rfl : pos = S.size := by omega
            have hnx : ∀ ty, (Instr.next (.pointer (some ⟨w0.heap.size, 0, none⟩)) true ty).run Tryz.prog wr = _ := fun ty => Lib.run_next_end_at wr w0.heap.size S S.size ty hit hps
            have HEF := hide (show ((tt.size : Int) == 0) = foldE s t by
              rw [← (unhide HH).2.2, List.drop_of_length_le (by rw [Array.length_toList]; exact Nat.le_refl _)]
              rfl)
            have HB := hide (unhide HH).2.1
            clear HH
            go_wp2
            try rw [Exit.noGoto_ret]
            go_ret
            exact ⟨by rw [← unhide HEF]; rfl, unhide HB⟩
      · rw [if_neg hb8] at HS
        have hor : ¬ (128 ≤ bits .or .u8 (a.toNat : Int) (b.toNat : Int)) := by rw [or8 a b ha8]; exact hb8
        by_cases hab : b.toNat = a.toNat
        · rw [if_pos hab] at HS
          have habz : ((b.toNat : Int) == (a.toNat : Int)) = true := by simp; omega
          clear hab
          go_wp2
          go_roundg g
          case measure => omega
          case rel => exact ⟨i + 1, by go_num, by omega, by omega, HS, rfl⟩
        · rw [if_neg hab] at HS
          have habz : ((b.toNat : Int) == (a.toNat : Int)) = false := by simp; omega
          have hb128 : b.toNat < 128 := by omega
          have hw1 : ∀ x : UInt8, x.toNat ≤ 90 → 65 ≤ x.toNat → (((x.toNat : Int) + 97) % 256 - 65) % 256 = (x.toNat : Int) + 32 := fun x h1 h2 => by omega
          by_cases hsw : b.toNat < a.toNat
          · have hswz : (b.toNat : Int) < (a.toNat : Int) := by omega
            have hmn : min a.toNat b.toNat = b.toNat := by omega
            have hmx : max a.toNat b.toNat = a.toNat := by omega
            rw [show asciiPair a.toNat b.toNat = (decide (65 ≤ b.toNat) && decide (b.toNat ≤ 90) && (a.toNat == b.toNat + 32)) by unfold asciiPair; rw [hmn, hmx]] at HS
            clear hmn hmx hb8
            by_cases l1 : 65 ≤ b.toNat
            · have l1z : (65 : Int) ≤ (b.toNat : Int) := by omega
              by_cases l2 : b.toNat ≤ 90
              · have l2z : (b.toNat : Int) ≤ 90 := by omega
                by_cases l3 : a.toNat = b.toNat + 32
                · rw [decide_eq_true l1, decide_eq_true l2, show (a.toNat == b.toNat + 32) = true by simpa using l3] at HS
                  have l3z : ((a.toNat : Int) == (b.toNat : Int) + 32) = true := by simp; omega
                  clear l3
                  rw [show (if (true && true && true) = true then efA s t g (i + 1) else false) = efA s t g (i + 1) from rfl] at HS
                  go_wp2
                  go_roundg g
                  case measure => omega
                  case rel => exact ⟨i + 1, by go_num, by omega, by omega, HS, rfl⟩
                · rw [decide_eq_true l1, decide_eq_true l2, show (a.toNat == b.toNat + 32) = false by simpa using l3] at HS
                  have l3z : ((a.toNat : Int) == (b.toNat : Int) + 32) = false := by simp; omega
                  go_wp2
                  simp only [Exit.jump]
                  go_ret
                  exact ⟨by rw [← unhide HS]; rfl, Below.refl _ _⟩
              · have l2z : ¬ ((b.toNat : Int) ≤ 90) := by omega
                rw [decide_eq_true l1, decide_eq_false l2] at HS
                skip
                · skip
                  go_wp2
                  simp only [Exit.jump]
                  go_ret
                  exact ⟨by rw [← unhide HS]; rfl, Below.refl _ _⟩
            · have l1z : ¬ ((65 : Int) ≤ (b.toNat : Int)) := by omega
              rw [decide_eq_false l1] at HS
              · skip
                · skip
                  go_wp2
                  simp only [Exit.jump]
                  go_ret
                  exact ⟨by rw [← unhide HS]; rfl, Below.refl _ _⟩
          · have hswz : ¬ ((b.toNat : Int) < (a.toNat : Int)) := by omega
            have hmn : min a.toNat b.toNat = a.toNat := by omega
            have hmx : max a.toNat b.toNat = b.toNat := by omega
            rw [show asciiPair a.toNat b.toNat = (decide (65 ≤ a.toNat) && decide (a.toNat ≤ 90) && (b.toNat == a.toNat + 32)) by unfold asciiPair; rw [hmn, hmx]] at HS
            clear hmn hmx hb8
            by_cases l1 : 65 ≤ a.toNat
            · have l1z : (65 : Int) ≤ (a.toNat : Int) := by omega
              by_cases l2 : a.toNat ≤ 90
              · have l2z : (a.toNat : Int) ≤ 90 := by omega
                by_cases l3 : b.toNat = a.toNat + 32
                · rw [decide_eq_true l1, decide_eq_true l2, show (b.toNat == a.toNat + 32) = true by simpa using l3] at HS
                  have l3z : ((b.toNat : Int) == (a.toNat : Int) + 32) = true := by simp; omega
                  clear l3
                  rw [show (if (true && true && true) = true then efA s t g (i + 1) else false) = efA s t g (i + 1) from rfl] at HS
                  go_wp2
                  go_roundg g
                  case measure => omega
                  case rel => exact ⟨i + 1, by go_num, by omega, by omega, HS, rfl⟩
                · rw [decide_eq_true l1, decide_eq_true l2, show (b.toNat == a.toNat + 32) = false by simpa using l3] at HS
                  have l3z : ((b.toNat : Int) == (a.toNat : Int) + 32) = false := by simp; omega
                  go_wp2
                  simp only [Exit.jump]
                  go_ret
                  exact ⟨by rw [← unhide HS]; rfl, Below.refl _ _⟩
              · have l2z : ¬ ((a.toNat : Int) ≤ 90) := by omega
                rw [decide_eq_true l1, decide_eq_false l2] at HS
                skip
                · skip
                  go_wp2
                  simp only [Exit.jump]
                  go_ret
                  exact ⟨by rw [← unhide HS]; rfl, Below.refl _ _⟩
            · have l1z : ¬ ((65 : Int) ≤ (a.toNat : Int)) := by omega
              rw [decide_eq_false l1] at HS
              · skip
                · skip
                  go_wp2
                  simp only [Exit.jump]
                  go_ret
                  exact ⟨by rw [← unhide HS]; rfl, Below.refl _ _⟩
    · obtain rfl : i = n := by omega
      have z1 : ¬ ((i : Int) < (i : Int)) := by omega
      have HR := hide (show foldE s t = ((s.size : Int) == (t.size : Int)) by
        rw [← unhide HE]
        have := unhide HN
        cases gk with
        | zero => rfl
        | succ g => unfold efA; rw [if_neg (by omega)])
      go_wp2
      simp only [Exit.jump]
      go_ret
      exact ⟨by rw [unhide HR]; rfl, Below.refl _ _⟩
end Go.Proofs.Qxb6615497aGreatDoor
