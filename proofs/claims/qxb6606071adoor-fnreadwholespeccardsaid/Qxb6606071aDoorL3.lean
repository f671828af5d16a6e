import Derived.Test.Qxb6606071aDoorW3
namespace Go.Proofs.Qxb6606071aDoor
open Go.RowKit

theorem new7 (w W : World) (v0 v1 v2 v3 v4 v5 v6 : Value) (hB : Below (w.alloc (.cells #[v0, v1, v2, v3, v4, v5, v6] 24)).heap.size (w.alloc (.cells #[v0, v1, v2, v3, v4, v5, v6] 24)) W) : Q7 W w.heap.size v0 v1 v2 v3 v4 v5 v6 := by
  have hz : (w.alloc (.cells #[v0, v1, v2, v3, v4, v5, v6] 24)).heap.size = w.heap.size + 1 := Array.size_push ..
  rw [hz] at hB
  have h : ∀ j, W.cell? ⟨w.heap.size, j, none⟩ = (#[v0, v1, v2, v3, v4, v5, v6])[j]? := by
    intro j
    rw [hB.cell (Nat.lt_succ_self _), World.cell?_alloc_mark]
  exact ⟨h 0, h 1, h 2, h 3, h 4, h 5, h 6⟩

set_option maxRecDepth 100000 in
set_option maxHeartbeats 2000000 in
theorem law3_any (s : ByteArray) (w : World) (hs : s.size ≤ maxLen) :
    Calls Tryd.prog 3 #[.string s] w fun e w' => e = .returned (.bool true) ∧ Below w.heap.size w w' := by
  have HZ := hide (zzBytes6_any s w hs)
  have HM := hide (fun (h : s.size ≤ 1048576) => model_any s w h)
  have HS := hide (fun (h : s.size ≤ 1048576) W => zzScan_any s W h)
  unfold maxLen at hs
  go_enter Tryd.func3, Tryd.ntmps3
  go_wp2_with fail
  refine (unhide HZ).mono ?_
  rintro e w' ⟨z, rfl, rfl⟩
  clear HZ
  cases z with
  | false =>
    go_wp2
    go_ret
    exact ⟨rfl, Below.refl _ _⟩
  | true =>
    by_cases hs2 : s.size ≤ 1048576
    case neg =>
      go_wp2
      go_ret
      exact ⟨rfl, Below.refl _ _⟩
    clear hs
    have HM2 := hide (unhide HM hs2)
    have HS2 := hide (unhide HS hs2)
    clear HM HS
    go_wp2_with fail
    refine (unhide HM2).mono ?_
    rintro e w1 ⟨T, a, b, c, d, t, r, fd, H1, H2, rfl, hb⟩
    clear HM2
    have HB1 := hide hb
    clear hb
    go_wp2_with fail
    refine (unhide HS2 _).mono ?_
    rintro e w2 ⟨T', a', b', c', d', t', r', fd', H1', _, H2', rfl, hb2⟩
    clear HS2
    have hT : T' = T := ba_ext ((unhide H1').trans (unhide H1).symm)
    have hall : (a', b', c', d', t', r', fd') = (a, b, c, d, t, r, fd) := by
      have h1 := unhide H2'
      rw [hT] at h1
      exact h1.trans (unhide H2).symm
    clear H1 H1' H2 H2' hT
    simp only [Prod.mk.injEq] at hall
    obtain ⟨rfl, rfl, rfl, rfl, rfl, rfl, rfl⟩ := hall
    obtain ⟨c0, c1, c2, c3, c4, c5, c6⟩ := new7 _ _ _ _ _ _ _ _ _ hb2
    have HB2 := hide hb2
    clear hb2
    have hbf : Below w'.heap.size w' w2 := by
      have h1 := (unhide HB1).alloc (unhide HB1).size (.cells #[.string a', .string b', .string c', .string d', .string t', .string r', .bool fd'] 24)
      exact h1.trans ((unhide HB2).mono h1.size)
    have HBF := hide hbf
    clear hbf HB1 HB2
    cases fd'
    all_goals
      go_wp2
      go_ret
      exact ⟨rfl, unhide HBF⟩
end Go.Proofs.Qxb6606071aDoor
