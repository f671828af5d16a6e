import Derived.Test.Qxb6605421aDoorW2
namespace Go.Proofs.Qxb6605421aDoor
open Go.RowKit Go.Maps

theorem law6_calls (p : ByteArray) (b : Bool) (m : Int) (w : World) (hm : w.cell? ⟨3, 0, none⟩ = some (.int .i64 m)) (hp : p.size ≤ 1048576) (hl : p.data.toList.getLast? ≠ some 47) :
    Calls Tryd.prog 15 #[.string (if b then rqs p else rq p)] w fun e w' => e = .returned (.tuple #[.string p, .bool b, .bool true]) ∧ Below w.heap.size w w' := by
  cases b with
  | false =>
    refine zzListed _ _ _ w ?_
    have := listed_q (rq p) p m w (rq_data p) (rq_size p hp) hm
    rw [(suffix_no p hl).1, (suffix_no p hl).2] at this
    exact this
  | true =>
    refine zzListed _ _ _ w ?_
    have := listed_q (rqs p) (p ++ { data := #[47] }) m w (rqs_data p) (rqs_size p hp) hm
    rw [(suffix_yes p).1, (suffix_yes p).2] at this
    exact this

theorem last_cases (p : ByteArray) : (p.size = 0 ∧ Hid (p.data.toList.getLast? ≠ some 47)) ∨ (∃ h : 0 < p.size, ((p[p.size - 1]'(by omega)).toNat : Int) = 47) ∨ (∃ h : 0 < p.size, ((p[p.size - 1]'(by omega)).toNat : Int) ≠ 47 ∧ Hid (p.data.toList.getLast? ≠ some 47)) := by
  by_cases h0 : p.size = 0
  · left
    refine ⟨h0, hide ?_⟩
    have : p.data.toList = [] := List.length_eq_zero_iff.1 (by simpa using h0)
    rw [this]; simp
  · right
    have hpos : 0 < p.size := by omega
    have e : p.data.toList.getLast? = some (p[p.size - 1]'(by omega)) := by
      rw [List.getLast?_eq_getElem?, List.getElem?_eq_getElem (by simp; omega)]
      rfl
    by_cases h : ((p[p.size - 1]'(by omega)).toNat : Int) = 47
    · exact .inl ⟨hpos, h⟩
    · right
      refine ⟨hpos, h, hide ?_⟩
      rw [e]
      intro he
      rw [Option.some.inj he] at h
      exact h rfl

set_option maxRecDepth 100000 in
set_option maxHeartbeats 1000000 in
theorem law6_any (p : ByteArray) (b : Bool) (m : Int) (w : World) (hm : w.cell? ⟨3, 0, none⟩ = some (.int .i64 m)) (hp : p.size ≤ maxLen) :
    Calls Tryd.prog 6 #[.string p, .bool b] w fun e w' => e = .returned (.bool true) ∧ Below w.heap.size w w' := by
  have HZ := hide (zzBytes16_any b p w hp)
  have HC := hide (law6_calls p b m w hm)
  unfold maxLen at hp
  clear hm
  cases b
  all_goals
    go_enter Tryd.func6, Tryd.ntmps6
    go_wp2_with fail
    refine (unhide HZ).mono ?_
    rintro e w' ⟨z, rfl, rfl⟩
    clear HZ
    cases z with
    | false =>
      go_wp2
      go_ret
      exact ⟨rfl, Below.refl _ _⟩
    | true =>
      by_cases hp2 : p.size ≤ 1048576
      case neg =>
        go_wp2
        go_ret
        exact ⟨rfl, Below.refl _ _⟩
      clear hp
      rcases last_cases p with ⟨h0, HL⟩ | ⟨h0, h47⟩ | ⟨h0, h47, HL⟩
      · have HC2 := hide (unhide HC hp2 (unhide HL))
        clear HC HL
        simp only [Bool.false_eq_true, if_true, if_false] at HC2
        first | unfold rqs at HC2 | unfold rq at HC2
        go_wp2_with fail
        refine (unhide HC2).mono ?_
        rintro e w2 ⟨rfl, hb⟩
        clear HC2
        go_wp2
        go_ret
        exact ⟨rfl, hb⟩
      · go_wp2
        go_ret
        exact ⟨rfl, Below.refl _ _⟩
      · have HC2 := hide (unhide HC hp2 (unhide HL))
        clear HC HL
        simp only [Bool.false_eq_true, if_true, if_false] at HC2
        first | unfold rqs at HC2 | unfold rq at HC2
        go_wp2_with fail
        refine (unhide HC2).mono ?_
        rintro e w2 ⟨rfl, hb⟩
        clear HC2
        go_wp2
        go_ret
        exact ⟨rfl, hb⟩
end Go.Proofs.Qxb6605421aDoor
