import Derived.Test.Qxb6606071aDoorB7
import Derived.Test.Qxb6606071aDoorW2
/- scan's parts are a number's text. -/
namespace Go.Proofs.Qxb6606071aDoor.Fl
open Go Go.RowKit

theorem nd_dig : ∀ (l : List UInt8) (j : Nat), j < Pl.nd l → ∃ c, l[j]? = some c ∧ isDig c
  | [], j, h => by simp [Pl.nd] at h
  | c :: l, j, h => by
    unfold Pl.nd at h
    by_cases hc : Pl.isDig c = true
    · rw [if_pos hc] at h
      have hcd : isDig c := by
        have h : 48 ≤ c.toNat ∧ c.toNat ≤ 57 := by unfold Pl.isDig at hc; exact of_decide_eq_true hc
        exact h
      cases j with
      | zero => exact ⟨c, rfl, hcd⟩
      | succ j =>
        obtain ⟨d, h1, h2⟩ := nd_dig l j (by omega)
        exact ⟨d, by simpa using h1, h2⟩
    · rw [if_neg hc] at h; omega
theorem nd_drop (l : List UInt8) (k j : Nat) (h1 : k ≤ j) (h2 : j < k + Pl.nd (l.drop k)) : ∃ c, l[j]? = some c ∧ isDig c := by
  obtain ⟨c, e, hc⟩ := nd_dig (l.drop k) (j - k) (by omega)
  rw [List.getElem?_drop, show k + (j - k) = j by omega] at e
  exact ⟨c, e, hc⟩

theorem ext_size (T : ByteArray) (a E : Nat) (hE : E ≤ T.size) : (T.extract a E).size = E - a := by
  rw [ByteArray.size_extract]; omega
theorem ext_list (T : ByteArray) (a E : Nat) : (T.extract a E).data.toList = (T.data.toList.drop a).take (E - a) := by
  rw [ByteArray.data_extract, Array.toList_extract, List.extract_eq_take_drop]
theorem ext_at0 (T : ByteArray) (E i : Nat) (c : UInt8) (hE : E ≤ T.size) (hi : i < E) (h : T.data.toList[i]? = some c) : ∃ hh : i < (T.extract 0 E).size, (T.extract 0 E)[i]'hh = c := by
  have hs := ext_size T 0 E hE
  refine ⟨by omega, ?_⟩
  have hl : i < (T.extract 0 E).data.toList.length := by rw [Array.length_toList]; show i < (T.extract 0 E).size; omega
  have e : (T.extract 0 E).data.toList[i]? = some ((T.extract 0 E)[i]'(by omega)) := List.getElem?_eq_getElem hl
  rw [ext_list, List.drop_zero, List.getElem?_take, if_pos (by omega), h] at e
  exact (Option.some.inj e).symm

theorem dotAt_some {l : List UInt8} {k : Nat} (h : dotAt l k = true) : ∃ c, l[k]? = some c ∧ c.toNat = 46 := by
  unfold dotAt at h
  cases e : l[k]? with
  | none => rw [e] at h; cases h
  | some c =>
    rw [e] at h
    have : c = 46 := by simpa using h
    exact ⟨c, rfl, by rw [this]; rfl⟩
theorem eAt_some {l : List UInt8} {k : Nat} (h : eAt l k = true) : ∃ c, l[k]? = some c ∧ (c.toNat = 101 ∨ c.toNat = 69) := by
  unfold eAt at h
  cases e : l[k]? with
  | none => rw [e] at h; cases h
  | some c =>
    rw [e] at h
    unfold Pl.isE at h
    have : c = 101 ∨ c = 69 := by simpa using h
    refine ⟨c, rfl, ?_⟩
    rcases this with h | h
    · left; rw [h]; rfl
    · right; rw [h]; rfl
theorem sgnAt_some {l : List UInt8} {k : Nat} (h : sgnAt l k = true) : ∃ c, l[k]? = some c ∧ (c = 43 ∨ c = 45) := by
  unfold sgnAt at h
  cases e : l[k]? with
  | none => rw [e] at h; cases h
  | some c =>
    rw [e] at h
    unfold Pl.isSign at h
    exact ⟨c, rfl, by simpa using h⟩

/-- the sign's text. -/
theorem sign_text (T : ByteArray) (e0 : Nat) (h : e0 = Pl.sg T.data.toList) : (e0 = 0 ∧ (T.extract 0 e0).data.toList = []) ∨ (e0 = 1 ∧ ∃ c, T.data.toList[0]? = some c ∧ (c = 43 ∨ c = 45) ∧ (T.extract 0 e0).data.toList = [c]) := by
  rw [sg_at] at h
  rw [ext_list, List.drop_zero]
  cases hs : sgnAt T.data.toList 0 with
  | false => rw [hs] at h; left; subst h; exact ⟨rfl, rfl⟩
  | true =>
    rw [hs] at h
    right
    obtain ⟨c, h1, h2⟩ := sgnAt_some hs
    subst h
    refine ⟨rfl, c, h1, h2, ?_⟩
    cases hl : T.data.toList with
    | nil => rw [hl] at h1; cases h1
    | cons x r =>
      rw [hl] at h1
      have : x = c := by simpa using h1
      rw [this]; rfl

/-- scan's text, read as ParseFloat reads it. -/
theorem numText_of (T : ByteArray) (hT : T.size ≤ 1048576) (e0 i1 e1 e2 E : Nat) (he0 : e0 = Pl.sg T.data.toList) (hi1 : i1 = Pl.nd (T.data.toList.drop e0)) (he1 : e1 = e0 + i1) (he2 : e2 = e2Of T.data.toList i1 e1) (hE : E = endOf T.data.toList e2)
    (hnf : ¬ (i1 = 0 ∧ frOf T.data.toList e1 = 0)) : NumText (T.extract 0 E) e0 e2 ((T.extract 0 e0).data.toList == [45]) ∧ e2 ≤ E ∧ E ≤ T.size ∧ e1 ≤ e2 ∧ (e2 = e1 ∨ (dotAt T.data.toList e1 = true ∧ e2 = e1 + 1 + frOf T.data.toList e1)) := by
  have hsgle := sg_le T
  rw [← he0] at hsgle
  have h1le : e1 ≤ T.size := by rw [he1, hi1]; exact cnt_le T e0 hsgle
  have h2le : e2 ≤ T.size := by rw [he2]; exact e2_le T i1 e1 h1le
  have hEle : E ≤ T.size := by rw [hE]; exact end_le T e2 h2le
  -- the body
  have hbody : (e2 = e1 ∧ i1 ≠ 0) ∨ (dotAt T.data.toList e1 = true ∧ e2 = e1 + 1 + frOf T.data.toList e1) := by
    unfold frOf at hnf ⊢
    unfold e2Of at he2
    cases hd : dotAt T.data.toList e1 with
    | false =>
      rw [hd] at he2 hnf
      left
      exact ⟨he2, fun h => hnf ⟨h, rfl⟩⟩
    | true =>
      rw [hd] at he2 hnf
      right
      simp only [if_true] at he2 hnf ⊢
      rw [if_neg hnf] at he2
      exact ⟨trivial, he2⟩
  have h12 : e1 ≤ e2 := by rcases hbody with ⟨h, _⟩ | ⟨_, h⟩ <;> omega
  -- the end
  have hx := exAll T e2
  have hend : E = e2 ∨ (eAt T.data.toList e2 = true ∧ Pl.nd (T.data.toList.drop (xOf T.data.toList e2)) ≠ 0 ∧ E = xOf T.data.toList e2 + Pl.nd (T.data.toList.drop (xOf T.data.toList e2))) := by
    cases he : eAt T.data.toList e2 with
    | false => left; rw [hE, (hx.1 he).1]
    | true =>
      by_cases h0 : Pl.nd (T.data.toList.drop (xOf T.data.toList e2)) = 0
      · left; rw [hE, ((hx.2 he).1 h0).1]
      · right; exact ⟨rfl, h0, by rw [hE, ((hx.2 he).2 h0).1]⟩
  have hxo : xOf T.data.toList e2 = e2 + 2 ∨ xOf T.data.toList e2 = e2 + 1 := by
    unfold xOf; split
    · exact .inl rfl
    · exact .inr rfl
  have h2E : e2 ≤ E := by rcases hend with h | ⟨_, _, h⟩ <;> omega
  have hs := ext_size T 0 E hEle
  rw [Nat.sub_zero] at hs
  -- bytes of the body
  have hbyte : ∀ i, e0 ≤ i → i < e2 → ∃ c, T.data.toList[i]? = some c ∧ ((isDig c ∧ i ≠ e1) ∨ (c.toNat = 46 ∧ i = e1)) := by
    intro i q1 q2
    by_cases hi : i < e1
    · obtain ⟨c, h1, h2⟩ := nd_drop T.data.toList e0 i q1 (by rw [← hi1]; omega)
      exact ⟨c, h1, .inl ⟨h2, by omega⟩⟩
    · rcases hbody with ⟨h, _⟩ | ⟨hd, h⟩
      · omega
      · by_cases hie : i = e1
        · obtain ⟨c, h1, h2⟩ := dotAt_some hd
          subst hie
          exact ⟨c, h1, .inr ⟨h2, rfl⟩⟩
        · unfold frOf at h
          rw [hd] at h
          simp only [if_true] at h
          obtain ⟨c, h1, h2⟩ := nd_drop T.data.toList (e1 + 1) i (by omega) (by omega)
          exact ⟨c, h1, .inl ⟨h2, hie⟩⟩
  have hbyte2 : ∀ i (h : i < (T.extract 0 E).size), e0 ≤ i → i < e2 → (isDig ((T.extract 0 E)[i]'h) ∧ i ≠ e1) ∨ (((T.extract 0 E)[i]'h).toNat = 46 ∧ i = e1) := by
    intro i h q1 q2
    obtain ⟨c, h1, h2⟩ := hbyte i q1 q2
    obtain ⟨hh, e⟩ := ext_at0 T E i c hEle (by omega) h1
    have e' : (T.extract 0 E)[i]'h = c := e
    rw [e']
    exact h2
  have hlt : e0 < e2 := by
    rcases hbody with ⟨h, h0⟩ | ⟨_, h⟩ <;> omega
  refine ⟨⟨?_, hlt, by omega, ?_, ?_, ?_, by omega, ?_⟩, h2E, hEle, h12, ?_⟩
  · -- sign
    unfold Sg
    rcases sign_text T e0 he0 with ⟨h, hl⟩ | ⟨h, c, h1, h2, hl⟩
    · left; rw [hl]; exact ⟨h, rfl⟩
    · right
      rw [hl]
      obtain ⟨hh, e⟩ := ext_at0 T E 0 c hEle (by omega) h1
      refine ⟨h, hh, ?_⟩
      rcases h2 with rfl | rfl
      · left; rw [e]; exact ⟨rfl, rfl⟩
      · right; rw [e]; exact ⟨rfl, rfl⟩
  · intro i h q1 q2
    unfold dotDig
    rcases hbyte2 i h q1 q2 with ⟨h1, _⟩ | ⟨h1, _⟩
    · exact .inr h1
    · exact .inl h1
  · intro i j h h' q1 q2 q3 q4 d1 d2
    rcases hbyte2 i h q1 q2 with ⟨h1, _⟩ | ⟨_, h1⟩
    · unfold isDig at h1; omega
    · rcases hbyte2 j h' q3 q4 with ⟨h2, _⟩ | ⟨_, h2⟩
      · unfold isDig at h2; omega
      · omega
  · -- a digit
    have : ∃ i, e0 ≤ i ∧ i < e2 ∧ i ≠ e1 := by
      by_cases h0 : i1 = 0
      · rcases hbody with ⟨_, h⟩ | ⟨_, h⟩
        · exact absurd h0 h
        · exact ⟨e1 + 1, by omega, by have : frOf T.data.toList e1 ≠ 0 := fun hf => hnf ⟨h0, hf⟩
                                      omega, by omega⟩
      · exact ⟨e0, by omega, hlt, by omega⟩
    obtain ⟨i, q1, q2, q3⟩ := this
    have hi : i < (T.extract 0 E).size := by omega
    refine ⟨i, q1, q2, hi, ?_⟩
    rcases hbyte2 i hi q1 q2 with ⟨h1, _⟩ | ⟨_, h1⟩
    · unfold isDig at h1; omega
    · exact absurd h1 q3
  · -- exponent
    rcases hend with h | ⟨he, h0, h⟩
    · left; omega
    · right
      obtain ⟨c, h1, h2⟩ := eAt_some he
      obtain ⟨hh, e⟩ := ext_at0 T E e2 c hEle (by omega) h1
      cases hsx : sgnAt T.data.toList (e2 + 1) with
      | true =>
        have hx2 : xOf T.data.toList e2 = e2 + 2 := by unfold xOf; rw [hsx]; rfl
        obtain ⟨c2, g1, g2⟩ := sgnAt_some hsx
        obtain ⟨hh2, e2'⟩ := ext_at0 T E (e2 + 1) c2 hEle (by omega) g1
        refine ⟨1, if c2 = 43 then 1 else -1, ⟨hh, by rw [e]; exact h2⟩, .inr ⟨rfl, hh2, ?_⟩, by omega, ?_⟩
        · rw [e2']
          rcases g2 with rfl | rfl
          · left; exact ⟨rfl, rfl⟩
          · right; exact ⟨rfl, rfl⟩
        · intro i hi q
          obtain ⟨d, d1, d2⟩ := nd_drop T.data.toList (xOf T.data.toList e2) i (by omega) (by omega)
          obtain ⟨hh3, e3⟩ := ext_at0 T E i d hEle (by omega) d1
          have e3' : (T.extract 0 E)[i]'hi = d := e3
          rw [e3']; exact d2
      | false =>
        have hx2 : xOf T.data.toList e2 = e2 + 1 := by unfold xOf; rw [hsx]; rfl
        refine ⟨0, 1, ⟨hh, by rw [e]; exact h2⟩, .inl ⟨rfl, rfl⟩, by omega, ?_⟩
        intro i hi q
        obtain ⟨d, d1, d2⟩ := nd_drop T.data.toList (xOf T.data.toList e2) i (by omega) (by omega)
        obtain ⟨hh3, e3⟩ := ext_at0 T E i d hEle (by omega) d1
        have e3' : (T.extract 0 E)[i]'hi = d := e3
        rw [e3']; exact d2
  · rcases hbody with ⟨h, _⟩ | h
    · exact .inl h
    · exact .inr h

/-- scan's text where it has neither fraction nor exponent. -/
theorem whole_of (T : ByteArray) (e0 i1 e1 e2 : Nat) (hi1 : i1 = Pl.nd (T.data.toList.drop e0)) (he1 : e1 = e0 + i1) (hbody : e2 = e1 ∨ (dotAt T.data.toList e1 = true ∧ e2 = e1 + 1)) :
    Whole (T.extract 0 e2) e0 (T.extract e0 e1).data.toList := by
  have hb : (T.extract e0 e1).data.toList = (T.data.toList.drop e0).take i1 := by rw [ext_list, he1, Nat.add_sub_cancel_left]
  rw [hb]
  constructor
  · intro c hc
    obtain ⟨j, hj⟩ := List.getElem?_of_mem hc
    rw [List.getElem?_take] at hj
    by_cases hji : j < i1
    · rw [if_pos hji] at hj
      obtain ⟨d, h1, h2⟩ := nd_dig (T.data.toList.drop e0) j (by omega)
      rw [h1] at hj
      cases hj
      exact h2
    · rw [if_neg hji] at hj; cases hj
  · rw [ext_list, List.drop_zero, List.drop_take]
    rcases hbody with h | ⟨hd, h⟩
    · left
      rw [h, he1, show e0 + i1 - 0 - e0 = i1 by omega]
    · right
      obtain ⟨c, h1, h2⟩ := dotAt_some hd
      have hc : c = 46 := UInt8.toNat_inj.1 h2
      rw [h, he1, show e0 + i1 + 1 - 0 - e0 = i1 + 1 by omega, List.take_add_one]
      rw [List.getElem?_drop, ← he1, h1, hc]
      rfl

/-- what is known of scan's parts where it finds a number. -/
structure Parts (a b c d t : ByteArray) : Prop where
  sg : a.data.toList = [] ∨ a.data.toList = [43] ∨ a.data.toList = [45]
  len : a.size + b.size ≤ 1048577 ∧ b.size ≤ 1048576
  dig : allDig b.data.toList
  num : ∃ e0 m, NumText t e0 m (a.data.toList == [45]) ∧ (c.toList.isEmpty = true → d.toList.isEmpty = true → m = t.size ∧ Whole t e0 b.data.toList ∧ b.data.toList ≠ [])

theorem parts_known (T a b c d t r : ByteArray) (hT : T.size ≤ 1048576) (h : (a, b, c, d, t, r, true) = partsOf T) : Parts a b c d t := by
  obtain ⟨e0, he0⟩ : ∃ e0, e0 = Pl.sg T.data.toList := ⟨_, rfl⟩
  obtain ⟨i1, hi1⟩ : ∃ i1, i1 = Pl.nd (T.data.toList.drop e0) := ⟨_, rfl⟩
  obtain ⟨e1, he1⟩ : ∃ e1, e1 = e0 + i1 := ⟨_, rfl⟩
  obtain ⟨e2, he2⟩ : ∃ e2, e2 = e2Of T.data.toList i1 e1 := ⟨_, rfl⟩
  obtain ⟨E, hE⟩ : ∃ E, E = endOf T.data.toList e2 := ⟨_, rfl⟩
  have hp : partsOf T = partsAt T e0 i1 e1 e2 := by unfold partsOf; rw [← he0, ← hi1, ← he1, ← he2]
  rw [hp] at h
  unfold partsAt at h
  by_cases hnf : i1 = 0 ∧ frOf T.data.toList e1 = 0
  · rw [if_pos hnf] at h
    simp only [Prod.mk.injEq] at h
    exact absurd h.2.2.2.2.2.2 (by decide)
  · rw [if_neg hnf, ← hE] at h
    simp only [Prod.mk.injEq] at h
    obtain ⟨rfl, rfl, rfl, rfl, rfl, rfl, _⟩ := h
    obtain ⟨hN, h2E, hEle, h12, hbody⟩ := numText_of T hT e0 i1 e1 e2 E he0 hi1 he1 he2 hE hnf
    have hs0 : (T.extract 0 e0).size = e0 := by rw [ext_size T 0 e0 (by omega)]; omega
    have hs1 : (T.extract e0 e1).size = e1 - e0 := ext_size T e0 e1 (by omega)
    have hW : frOf T.data.toList e1 = 0 → Whole (T.extract 0 e2) e0 (T.extract e0 e1).data.toList := fun hf => whole_of T e0 i1 e1 e2 hi1 he1 (by
      rcases hbody with h | ⟨h, h3⟩
      · exact .inl h
      · exact .inr ⟨h, by omega⟩)
    have hdig : allDig (T.extract e0 e1).data.toList := (whole_of T e0 i1 e1 e1 hi1 he1 (.inl rfl)).1
    refine ⟨?_, by omega, hdig, e0, e2, hN, ?_⟩
    · rcases sign_text T e0 he0 with ⟨_, hl⟩ | ⟨_, c, _, h2, hl⟩
      · exact .inl hl
      · rcases h2 with rfl | rfl
        · exact .inr (.inl hl)
        · exact .inr (.inr hl)
    · intro hc hd
      have hf : frOf T.data.toList e1 = 0 := by
        rw [FOf_empty] at hc
        exact of_decide_eq_true hc
      have hi0 : i1 ≠ 0 := fun h0 => hnf ⟨h0, hf⟩
      have hEe : E = e2 := by
        have hx := exAll T e2
        rw [hE]
        cases he : eAt T.data.toList e2 with
        | false => exact (hx.1 he).1
        | true =>
          by_cases h0 : Pl.nd (T.data.toList.drop (xOf T.data.toList e2)) = 0
          · exact ((hx.2 he).1 h0).1
          · exfalso
            have hxo : xOf T.data.toList e2 = e2 + 2 ∨ xOf T.data.toList e2 = e2 + 1 := by
              unfold xOf; split
              · exact .inl rfl
              · exact .inr rfl
            obtain ⟨q1, q2⟩ := (hx.2 he).2 h0
            rw [q2] at hd
            have hle : xOf T.data.toList e2 + Pl.nd (T.data.toList.drop (xOf T.data.toList e2)) ≤ T.size := by rw [← q1, ← hE]; exact hEle
            rw [piece_empty T (e2 + 1) _ (xOf T.data.toList e2 + Pl.nd (T.data.toList.drop (xOf T.data.toList e2)) - (e2 + 1)) (by omega) hle] at hd
            have := of_decide_eq_true hd
            omega
      have hte : (T.extract 0 E).size = E := by rw [ext_size T 0 E hEle]; omega
      refine ⟨by omega, by rw [hEe]; exact hW hf, ?_⟩
      intro hnil
      have : (T.extract e0 e1).size = 0 := by
        show (T.extract e0 e1).data.size = 0
        rw [← Array.length_toList, hnil]; rfl
      omega
end Go.Proofs.Qxb6606071aDoor.Fl
