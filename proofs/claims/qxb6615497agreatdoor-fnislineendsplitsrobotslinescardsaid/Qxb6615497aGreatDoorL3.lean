import Derived.Test.Qxb6615497aGreatDoorW12
/- The law: the body's lines, and what the group then holds. -/
namespace Go.Proofs.Qxb6615497aGreatDoor
open Go.RowKit

theorem holds_body {W : World} {B : Nat} (r : Int) (h : ∀ j, j < (bodyB r).size → W.cell? ⟨B, j, none⟩ = some (.int .u8 ((bodyB r).get! j).toNat)) : Holds W B 0 (bodyL r) := by
  intro i x hi
  have hl : i < (bodyL r).length := (List.getElem?_eq_some_iff.1 hi).1
  have e : (bodyB r).get! i = x := by
    have h2 : (bodyL r)[i]'hl = x := (List.getElem?_eq_some_iff.1 hi).2
    rw [← h2]
    show (bodyL r).toArray[i]! = _
    simp [hl]
  rw [Nat.zero_add, h i (by rw [body_size]; exact hl), e]

theorem holds_alloc {W : World} {b o : Nat} {bs : List UInt8} (h : Holds W b o bs) (c : Array Value) (t : TypeId) : Holds (W.alloc (.cells c t)) b o bs :=
  h.below ((Below.refl _ W).alloc (Nat.le_refl _) _)

theorem maxLen_below {w W : World} (hm : ∃ m, w.cell? ⟨6, 0, none⟩ = some (.int .i64 m)) (hb : Below w.heap.size w W) : ∃ m, W.cell? ⟨6, 0, none⟩ = some (.int .i64 m) := by
  obtain ⟨m, hm⟩ := hm
  exact ⟨m, (hb.cell (p := ⟨6, 0, none⟩) (block_lt_of_cell hm)).trans hm⟩

theorem lower_ua : (⟨(Lib.toLowerA uaKey).toArray⟩ : ByteArray) = keyAgent := by decide +kernel
theorem lower_dx : (⟨(Lib.toLowerA dxKey).toArray⟩ : ByteArray) = keyDisallow := by decide +kernel

/-- the first line's field when the star stands alone before the line's end or a comment. -/
theorem field_star {W : World} {B : Nat} (post : List UInt8) (hp : post = [] ∨ ∃ t, post = 35 :: t) (hs : post.length ≤ 16) (h : Holds W B 0 (ua ++ post)) (hm : ∃ m, W.cell? ⟨6, 0, none⟩ = some (.int .i64 m)) :
    FieldIs (.slice (some ⟨B, 0, none⟩) (ua ++ post).length (ua ++ post).length) keyAgent ⟨#[42]⟩ W := by
  have H := fieldIs_of (w := W) (b := B) (o := 0) uaKey [42] post h hp (by simp [uaKey]; omega) (by decide) (by decide) (by decide) (by decide) (by decide) (by decide) (by decide) (by decide) (by decide) hm
  rw [lower_ua] at H
  exact H

theorem field_disallow {W : World} {B o : Nat} (h : Holds W B o dx) (hm : ∃ m, W.cell? ⟨6, 0, none⟩ = some (.int .i64 m)) :
    FieldIs (.slice (some ⟨B, o, none⟩) 12 12) keyDisallow ⟨#[47, 120]⟩ W := by
  have H := fieldIs_of (w := W) (b := B) (o := o) dxKey [47, 120] [] (by rw [List.append_nil]; exact h) (.inl rfl) (by decide) (by decide) (by decide) (by decide) (by decide) (by decide) (by decide) (by decide) (by decide) (by decide) hm
  rw [lower_dx] at H
  exact H

/-- .. when the line goes on behind it. -/
theorem field_on {W : World} {B : Nat} (r : Int) (hr : r ≠ 35) (h : Holds W B 0 (bodyL r)) (hm : ∃ m, W.cell? ⟨6, 0, none⟩ = some (.int .i64 m)) :
    FieldIs (.slice (some ⟨B, 0, none⟩) (bodyL r).length (bodyL r).length) keyAgent ⟨(42 :: (enc r ++ dx)).toArray⟩ W := by
  have hlen := body_len r
  have e := body_parts r
  have hn := body_no_hash r hr
  rw [e] at h hlen hn ⊢
  have ht := trim_star r
  have hr' : Lib.trimRightS (32 :: 42 :: (enc r ++ dx)) [32, 9] = 32 :: 42 :: (enc r ++ dx) := trimRight_star r
  have H := fieldIs_of (w := W) (b := B) (o := 0) uaKey (42 :: (enc r ++ dx)) [] (by rw [List.append_nil]; exact h) (.inl rfl) (by rw [List.append_nil]; omega) (by decide) hn (by decide) (by decide) (by simp) (by decide) (by decide) hr' ht hm
  rw [List.append_nil, lower_ua] at H
  exact H

theorem token_on (r : Int) : tokenOf ⟨(42 :: (enc r ++ dx)).toArray⟩ = ⟨#[]⟩ :=
  token_none _ (by show 1 < (42 :: (enc r ++ dx)).toArray.size; simp [dx]) (by rfl)

theorem parse_other (r : Int) (h13 : ¬ r = 13) (h10 : ¬ r = 10) (B cap : Nat) (W : World) (hT : Lib.Utf8Tabs 4 5 W) (hm : ∃ m, W.cell? ⟨6, 0, none⟩ = some (.int .i64 m)) (hcap : (bodyB r).size ≤ cap) (hH : Holds W B 0 (bodyL r)) :
    Calls Tryz.prog 18 #[.slice (some ⟨B, 0, none⟩) (bodyB r).size cap, .string botB] W fun e w' => e = .returned (.agg #[.slice none 0 0, .int .i64 0]) ∧ Below W.heap.size W w' := by
  have hlen := body_len r
  have hsz := body_size r
  have hlines := linesAre (b := B) (cap := cap) (s := bodyB r) (w := W) (Holds.whole (s := bodyB r) hH) hT (by omega) hcap
  rw [body_one r h13 h10] at hlines
  have htp : TrimsNone B (bodyB r).size cap W := by
    have e : bodyL r = 85 :: (bodyL r).tail := by rw [body_parts]; rfl
    have hl : (bodyL r).tail.length + 1 = (bodyB r).size := by rw [List.length_tail, hsz]; omega
    rw [← hl]
    exact trimsNone (by rw [← e]; exact hH) (by omega)
  by_cases hr : r = 35
  · subst hr
    have hf := field_star (W := W) (B := B) (35 :: dx) (.inr ⟨_, rfl⟩) (by decide) (by rw [← body_hash]; exact hH) hm
    rw [← body_hash, ← body_size] at hf
    exact parse_one B _ cap ⟨#[42]⟩ W (.inl token_star) htp hlines hf foldsNot bomLaid
  · have hf := field_on (W := W) (B := B) r hr hH hm
    rw [← body_size] at hf
    exact parse_one B _ cap _ W (.inr (token_on r)) htp hlines hf foldsNot bomLaid

theorem parse_eol (r : Int) (hr : r = 13 ∨ r = 10) (B cap : Nat) (W : World) (hT : Lib.Utf8Tabs 4 5 W) (hm : ∃ m, W.cell? ⟨6, 0, none⟩ = some (.int .i64 m)) (hcap : (bodyB r).size ≤ cap) (hH : Holds W B 0 (bodyL r)) :
    Calls Tryz.prog 18 #[.slice (some ⟨B, 0, none⟩) (bodyB r).size cap, .string botB] W fun e w' => ∃ g cap, e = .returned (.agg #[.slice (some ⟨g, 0, none⟩) 1 cap, .int .i64 0]) ∧ w'.cell? ⟨g, 0, none⟩ = some (.bool false) ∧ w'.cell? ⟨g, 1, none⟩ = some (.string ⟨#[47, 120]⟩) ∧ W.heap.size ≤ g ∧ Below W.heap.size W w' := by
  have hlen := body_len r
  have hsz := body_size r
  have hlines := linesAre (b := B) (cap := cap) (s := bodyB r) (w := W) (Holds.whole (s := bodyB r) hH) hT (by omega) hcap
  rw [body_two r hr] at hlines
  have htp : TrimsNone B (bodyB r).size cap W := by
    have e : bodyL r = 85 :: (bodyL r).tail := by rw [body_parts]; rfl
    have hl : (bodyL r).tail.length + 1 = (bodyB r).size := by rw [List.length_tail, hsz]; omega
    rw [← hl]
    exact trimsNone (by rw [← e]; exact hH) (by omega)
  have he : (enc r).length = 1 := by rcases hr with rfl | rfl <;> decide +kernel
  have hH1 : Holds W B 0 ua := by
    have : Holds W B 0 (ua ++ (enc r ++ dx)) := by rw [← List.append_assoc]; exact hH
    exact this.left
  have hH2 : Holds W B 14 dx := by
    have h2 : Holds W B (0 + (ua ++ enc r).length) dx := Holds.right hH
    have e2 : 0 + (ua ++ enc r).length = 14 := by rw [List.length_append, he]; rfl
    rw [e2] at h2
    exact h2
  have hf1 := field_star (W := W) (B := B) [] (.inl rfl) (by decide) (by rw [List.append_nil]; exact hH1) hm
  rw [List.append_nil] at hf1
  exact parse_two B _ cap W htp hlines hf1 (field_disallow hH2 hm) addsRule bomLaid

theorem law3_any (r : Int) (w : World) (hT : Lib.Utf8Tabs 4 5 w) (hm : ∃ m, w.cell? ⟨6, 0, none⟩ = some (.int .i64 m)) :
    Calls Tryz.prog 3 #[.int .i32 r] w fun e w' => e = .returned (.bool true) ∧ Below w.heap.size w w' := by
  by_cases hr : r = 13 ∨ r = 10
  · refine law3_eol r w hr fun cap W hcap hb hc => ?_
    have hH := holds_alloc (holds_body r hc) #[.slice none 0 0, .int .i64 0] 26
    have hba : Below W.heap.size W (W.alloc (.cells #[.slice none 0 0, .int .i64 0] 26)) := (Below.refl _ W).alloc (Nat.le_refl _) _
    have hbw := hb.trans (hba.mono hb.size)
    have hP := parse_eol r hr w.heap.size cap _ (Utf8Tabs_below hT hbw) (maxLen_below hm hbw) hcap hH
    have hZ := zzParse_of w.heap.size (bodyB r).size cap W (fun p l k w1 => ∃ g, p = some ⟨g, 0, none⟩ ∧ l = 1 ∧ w1.cell? ⟨g, 0, none⟩ = some (.bool false) ∧ w1.cell? ⟨g, 1, none⟩ = some (.string ⟨#[47, 120]⟩) ∧ W.heap.size + 1 ≤ g)
      (hP.mono (by
        rintro e w' ⟨g, k, rfl, h0, h1, hg, hb'⟩
        have hz : (W.alloc (.cells #[.slice none 0 0, .int .i64 0] 26)).heap.size = W.heap.size + 1 := by simp
        rw [hz] at hg hb'
        exact ⟨_, _, _, rfl, ⟨g, rfl, rfl, h0, h1, hg⟩, hb'⟩))
    refine hZ.mono ?_
    rintro e w' ⟨p, l, k, w1, rfl, ⟨g, rfl, rfl, h0, h1, hg⟩, hfar, hb'⟩
    exact ⟨g, k, rfl, (hfar ⟨g, 0, none⟩ (by show g ≠ _; omega)).trans h0, (hfar ⟨g, 1, none⟩ (by show g ≠ _; omega)).trans h1, hb'⟩
  · refine law3_other r w (fun h => hr (.inl h)) (fun h => hr (.inr h)) fun cap W hcap hb hc => ?_
    have hH := holds_alloc (holds_body r hc) #[.slice none 0 0, .int .i64 0] 26
    have hba : Below W.heap.size W (W.alloc (.cells #[.slice none 0 0, .int .i64 0] 26)) := (Below.refl _ W).alloc (Nat.le_refl _) _
    have hbw := hb.trans (hba.mono hb.size)
    have hP := parse_other r (fun h => hr (.inl h)) (fun h => hr (.inr h)) w.heap.size cap _ (Utf8Tabs_below hT hbw) (maxLen_below hm hbw) hcap hH
    have hZ := zzParse_of w.heap.size (bodyB r).size cap W (fun p l k w1 => p = none ∧ l = 0 ∧ k = 0)
      (hP.mono (by
        rintro e w' ⟨rfl, hb'⟩
        have hz : (W.alloc (.cells #[.slice none 0 0, .int .i64 0] 26)).heap.size = W.heap.size + 1 := by simp
        rw [hz] at hb'
        exact ⟨_, _, _, rfl, ⟨rfl, rfl, rfl⟩, hb'⟩))
    refine hZ.mono ?_
    rintro e w' ⟨p, l, k, w1, rfl, ⟨rfl, rfl, rfl⟩, hfar, hb'⟩
    exact ⟨rfl, hb'⟩
end Go.Proofs.Qxb6615497aGreatDoor
