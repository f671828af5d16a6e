import Derived.Test.Qxb6606071aDoorW5
import Derived.Test.Qxb6606071aDoorL3
/- FnReadWholeSpec: the law's walk. -/
namespace Go.Proofs.Qxb6606071aDoor.Fl
open Go Go.RowKit

set_option maxHeartbeats 1000000 in
theorem zzBytes10_any (q : ByteArray) (w : World) (hq : q.size ≤ maxLen) :
    Calls Tryd.prog 10 #[.string q] w fun e w' => ∃ b : Bool, e = .returned (.bool b) ∧ w' = w := by
  unfold maxLen at hq
  go_enter Tryd.func10, Tryd.ntmps10
  go_wp2
  all_goals
    go_ret
    exact ⟨_, rfl, rfl⟩

theorem trim_len (s T : ByteArray) (h : T.data.toList = trim s.data.toList) : T.size ≤ s.size := by
  have h1 : (trim s.data.toList).length ≤ s.data.toList.length := by
    unfold trim
    exact (List.dropWhile_sublist _).length_le
  rw [← h, Array.length_toList, Array.length_toList] at h1
  exact h1

theorem parts_same {s T T' : ByteArray} (h1 : T.data.toList = trim s.data.toList) (h2 : T'.data.toList = trim s.data.toList) : T' = T := ba_ext (h2.trans h1.symm)

set_option maxRecDepth 100000 in
set_option maxHeartbeats 2000000 in
theorem law5_any (s : ByteArray) (w : World) (hs : s.size ≤ maxLen) (hT : FTabs w) (hR : RangeVar w) :
    Calls Tryd.prog 5 #[.string s] w fun e w' => e = .returned (.bool true) ∧ Below w.heap.size w w' := by
  have HZ := hide (zzBytes10_any s w hs)
  have HM := hide (fun (h : s.size ≤ 1048576) => model_any s w h)
  have h16 := hT.big
  have HRd : Hid (s.size ≤ 1048576 → ∀ W, Below w.heap.size w W → Calls Tryd.prog 11 #[.string s] W fun e w' => (∃ T a b c d t r fd n f whole, Hid (T.data.toList = trim s.data.toList) ∧ Hid ((a, b, c, d, t, r, fd) = partsOf T) ∧ Hid (ReadOk a b c d fd n f whole) ∧ e = .returned (.tuple #[.int .i64 n, .float .f64 f, .bool whole])) ∧ Below W.heap.size W w') := fun h W hW =>
    read_any s W h (hT.stay (Nat.le_refl _) hW) (by
      obtain ⟨te, pe, h⟩ := hR
      exact ⟨te, pe, (hW.cell (p := ⟨1, 0, none⟩) (by show 1 < _; omega)).trans h⟩)
  unfold maxLen at hs
  clear hT hR h16
  go_enter Tryd.func5, Tryd.ntmps5
  go_wp2_with fail
  refine (unhide HZ).mono ?_
  rintro e w' ⟨z, rfl, rfl⟩
  clear HZ
  cases z with
  | false =>
    go_wp2
    go_ret
    exact ⟨rfl, Below.refl _ _⟩
  | true =>
    by_cases hs2 : s.size ≤ 1048576
    case neg =>
      go_wp2
      go_ret
      exact ⟨rfl, Below.refl _ _⟩
    clear hs
    have HM2 := hide (unhide HM hs2)
    have HR2 := hide (unhide HRd hs2)
    clear HM HRd
    go_wp2_with fail
    refine (unhide HM2).mono ?_
    rintro e w1 ⟨T, a, b, c, d, t, r, fd, H1, H2, rfl, hb⟩
    clear HM2
    have HB1 : Below w'.heap.size w' (w1.alloc (.cells #[.string a, .string b, .string c, .string d, .string t, .string r, .bool fd] 24)) := hb.alloc hb.size _
    clear hb
    go_wp2_with fail
    refine (unhide HR2 _ HB1).mono ?_
    rintro e w2 ⟨⟨T', a', b', c', d', t', r', fd', n, f, whole, H1', H2', HOk, rfl⟩, hb2⟩
    clear HR2
    have hT' : T' = T := parts_same H1 H1'
    have hTs : T'.size ≤ 1048576 := Nat.le_trans (trim_len s T' (unhide H1')) hs2
    subst hT'
    have hall : (a', b', c', d', t', r', fd') = (a, b, c, d, t, r, fd) := (unhide H2').trans H2.symm
    simp only [Prod.mk.injEq] at hall
    obtain ⟨rfl, rfl, rfl, rfl, rfl, rfl, rfl⟩ := hall
    obtain ⟨c0, c1, c2, c3, c4, c5, c6⟩ := new7 _ _ _ _ _ _ _ _ _ hb2
    have HBF := hide (HB1.trans (hb2.mono HB1.size))
    clear hb2 HB1 H1 H1' H2
    have hz0 : (FloatKind.f64.format.order 0 0 == some .eq) = true := by decide
    cases fd' with
    | false =>
      obtain ⟨rfl, rfl, rfl⟩ := (unhide HOk).1 rfl
      go_wp2
      go_ret
      exact ⟨rfl, unhide HBF⟩
    | true =>
      have hP := parts_known T' a' b' c' d' t' r' hTs (unhide H2')
      obtain ⟨ok1, ok2, ok3⟩ := unhide HOk
      clear ok1
      cases hc : c'.toList.isEmpty
      · obtain ⟨rfl, rfl⟩ := ok2 rfl (by rw [hc]; rintro ⟨h, _⟩; cases h)
        clear ok2 ok3 hP HOk H2'
        go_wp2
        go_ret
        exact ⟨rfl, unhide HBF⟩
      · cases hd : d'.toList.isEmpty
        · obtain ⟨rfl, rfl⟩ := ok2 rfl (by rw [hd]; rintro ⟨_, h⟩; cases h)
          clear ok2 ok3 hP HOk H2'
          go_wp2
          go_ret
          exact ⟨rfl, unhide HBF⟩
        · obtain ⟨g1, g2⟩ := ok3 rfl hc hd
          have hneg : (a'.data.toList == [45]) = (a'.toList == [45]) := by rw [toList_data]
          have HIV := hide (intValue_any a' b' (a'.data.toList == [45]) hneg.symm hP.len.2 hP.dig)
          rw [hneg] at g1 g2 HIV
          clear ok2 ok3 hP HOk H2' hneg
          generalize intV (a'.toList == [45]) (dv b'.data.toList 0) = V2 at *
          obtain ⟨vn, vb⟩ := V2
          dsimp only at g1 g2 HIV
          cases vb
          · obtain ⟨rfl, rfl, x, rfl, hx1, hx2⟩ := g2 rfl
            clear g1 g2
            cases hsg : (a'.toList == [45])
            · have ho := ord_big x hx1 hx2
              rw [wd_false] at ho ⊢
              have ho2 : (FloatKind.f64.format.order x 4890909195324358656 == some .gt || FloatKind.f64.format.order x 4890909195324358656 == some .eq) = true := by
                rcases ho with h | h
                · show (Ieee.double.order x bigW == some .gt || Ieee.double.order x bigW == some .eq) = true
                  rw [h]; rfl
                · show (Ieee.double.order x bigW == some .gt || Ieee.double.order x bigW == some .eq) = true
                  rw [h]; rfl
              clear ho hx1 hx2
              go_wp2_with (go_at_call 12; refine (unhide HIV _).mono ?_; rintro e w3 ⟨rfl, hw⟩; obtain rfl := hw.symm)
              go_ret
              exact ⟨rfl, unhide HBF⟩
            · have ho := ord_neg x hx1 hx2
              generalize wd true x = f at *
              have ho2 : (FloatKind.f64.format.order f 14114281232179134464 == some .lt || FloatKind.f64.format.order f 14114281232179134464 == some .eq) = true := by
                rcases ho with h | h
                · show (Ieee.double.order f 14114281232179134464 == some .lt || Ieee.double.order f 14114281232179134464 == some .eq) = true
                  rw [h]; rfl
                · show (Ieee.double.order f 14114281232179134464 == some .lt || Ieee.double.order f 14114281232179134464 == some .eq) = true
                  rw [h]; rfl
              clear ho hx1 hx2
              go_wp2_with (go_at_call 12; refine (unhide HIV _).mono ?_; rintro e w3 ⟨rfl, hw⟩; obtain rfl := hw.symm)
              go_ret
              exact ⟨rfl, unhide HBF⟩
          · obtain ⟨rfl, rfl, rfl⟩ := g1 rfl
            clear g1 g2
            go_wp2_with (go_at_call 12; refine (unhide HIV _).mono ?_; rintro e w3 ⟨rfl, hw⟩; obtain rfl := hw.symm)
            go_ret
            exact ⟨rfl, unhide HBF⟩
end Go.Proofs.Qxb6606071aDoor.Fl
