import Derived.Test.Qxb6615497aGreatDoorW8
import Derived.Shelf.Strings.CaseAny
import Derived.Lib.BufferRead
/- bytes.Trim, bytes.Cut, string(..) at every row of bytes. -/
namespace Go.Proofs.Qxb6615497aGreatDoor
open Go Go.RowKit

/-- the bytes bs lie from p on. -/
def BSl (w : World) (p : Option Addr) (bs : List UInt8) : Prop := bs ≠ [] → ∃ b o, p = some ⟨b, o, none⟩ ∧ Holds w b o bs
theorem BSl.below {w w' : World} {p : Option Addr} {bs : List UInt8} (h : BSl w p bs) (hb : Below w.heap.size w w') : BSl w' p bs := fun hne => by
  obtain ⟨b, o, e, hh⟩ := h hne
  exact ⟨b, o, e, hh.below hb⟩
theorem BSl.bytesIn {w : World} {p : Option Addr} {bs : List UInt8} (h : BSl w p bs) : Lib.BytesIn w p bs.length (nums bs) := fun hn => by
  obtain ⟨b, o, e, hh⟩ := h (by rintro rfl; exact absurd hn (by simp))
  exact ⟨b, o, e, fun i hi => hh.num i hi⟩

theorem dropWhile_drop' (q : UInt8 → Bool) : ∀ l : List UInt8, l.dropWhile q = l.drop (l.length - (l.dropWhile q).length)
  | [] => rfl
  | a :: l => by
    rw [List.dropWhile_cons]
    split
    · have ih := dropWhile_drop' q l
      have hle : (l.dropWhile q).length ≤ l.length := (List.dropWhile_suffix q).length_le
      rw [List.length_cons, show l.length + 1 - (l.dropWhile q).length = (l.length - (l.dropWhile q).length) + 1 by omega, List.drop_succ_cons]
      exact ih
    · simp
theorem trimRight_take (l cs : List UInt8) : Lib.trimRightS l cs = l.take (Lib.trimRightS l cs).length := by
  have h : Lib.trimRightS l cs <+: l := by
    unfold Lib.trimRightS
    have := List.dropWhile_suffix (l := l.reverse) (cs.contains ·)
    rw [← List.reverse_reverse l]
    exact List.reverse_prefix.2 (by simpa using this)
  exact (List.prefix_iff_eq_take.1 h)
theorem trimS_drop (l cs : List UInt8) : Lib.trimS l cs = (Lib.trimRightS l cs).drop ((Lib.trimRightS l cs).length - (Lib.trimS l cs).length) := by
  unfold Lib.trimS Lib.trimLeftS
  exact dropWhile_drop' _ _

theorem holds_drop {w : World} {b o : Nat} {bs : List UInt8} (h : Holds w b o bs) (j : Nat) : Holds w b (o + j) (bs.drop j) := fun i x hi => by
  rw [List.getElem?_drop] at hi
  have := h (j + i) x hi
  rw [Nat.add_assoc]; exact this
theorem holds_take {w : World} {b o : Nat} {bs : List UInt8} (h : Holds w b o bs) (j : Nat) : Holds w b o (bs.take j) := fun i x hi => by
  rw [List.getElem?_take] at hi
  split at hi
  · exact h i x hi
  · cases hi

theorem conv_sl {w : World} {p : Option Addr} {bs : List UInt8} (h : BSl w p bs) (c : Nat) (hp : p = none ∨ ∃ b o, p = some ⟨b, o, none⟩) : (convert 22 9 (.slice p bs.length c)).run Tryz.prog w = .ok (.string ⟨bs.toArray⟩) w := by
  by_cases hne : bs = []
  · subst hne
    rcases hp with rfl | ⟨b, o, rfl⟩
    · exact Lib.run_convert_nil_bytes w _ _ _ c Tryz.underlying22 Tryz.underlying5 Tryz.underlying9
    · exact Holds.text (fun i x hi => by cases hi) c
  · obtain ⟨b, o, rfl, hh⟩ := h hne
    exact hh.text c

/-- v is a slice of the bytes bs. -/
def SlV (w : World) (v : Value) (bs : List UInt8) : Prop := ∃ p c, v = .slice p bs.length c ∧ BSl w p bs ∧ (p = none ∨ ∃ b o, p = some ⟨b, o, none⟩) ∧ bs.length ≤ c ∧ c ≤ 4294967280
theorem SlV.below {w w' : World} {v : Value} {bs : List UInt8} (h : SlV w v bs) (hb : Below w.heap.size w w') : SlV w' v bs := by
  obtain ⟨p, c, e, h1, h2⟩ := h
  exact ⟨p, c, e, h1.below hb, h2⟩
theorem SlV.conv {w : World} {v : Value} {bs : List UInt8} (h : SlV w v bs) : (convert 22 9 v).run Tryz.prog w = .ok (.string ⟨bs.toArray⟩) w := by
  obtain ⟨p, c, rfl, h1, h2, _⟩ := h
  exact conv_sl h1 c h2

theorem addr_add (b o j : Nat) : (⟨b, o, none⟩ : Addr).add j = ⟨b, o + j, none⟩ := by unfold Addr.add; split <;> simp_all

theorem fromV_slv {w : World} {p : Option Addr} {bs : List UInt8} (h : BSl w p bs) (hp : p = none ∨ ∃ b o, p = some ⟨b, o, none⟩) (c j : Nat) (hc : bs.length ≤ c) (hc2 : c ≤ 4294967280) : SlV w (Lib.fromV p bs.length c j) (bs.drop j) := by
  refine ⟨_, c - j, by rw [List.length_drop]; rfl, ?_, ?_, by rw [List.length_drop]; omega, by omega⟩
  · intro hne
    have hl : j < bs.length := by
      rcases Nat.lt_or_ge j bs.length with h | h
      · exact h
      · exact absurd (List.drop_eq_nil_of_le h) hne
    obtain ⟨b, o, rfl, hh⟩ := h (by rintro rfl; simp at hl)
    rw [if_neg (by omega)]
    exact ⟨b, o + j, by simp [addr_add], holds_drop hh j⟩
  · split
    · exact hp
    · rcases hp with rfl | ⟨b, o, rfl⟩
      · exact .inl rfl
      · exact .inr ⟨b, o + j, by simp [addr_add]⟩

theorem BSl.take {w : World} {p : Option Addr} {bs : List UInt8} (h : BSl w p bs) (j : Nat) : BSl w p (bs.take j) := fun hne => by
  obtain ⟨b, o, e, hh⟩ := h (by rintro rfl; simp at hne)
  exact ⟨b, o, e, holds_take hh j⟩

/-- bytes.Trim at every slice. -/
theorem bytesTrim_any {w : World} {v : Value} {bs : List UInt8} (h : SlV w v bs) : ∃ v', SlV w v' (Lib.trimS bs [32, 9]) ∧ ∀ W, Below w.heap.size w W → Calls Tryz.prog 49 #[v, .string ⟨#[32, 9]⟩] W fun e W' => e = .returned v' ∧ Below W.heap.size W W' := by
  obtain ⟨p, c, rfl, h1, h2, h3, h4⟩ := h
  refine ⟨Lib.leftV p (Lib.trimRightS bs [32, 9]).length c ((Lib.trimRightS bs [32, 9]).length - (Lib.trimS bs [32, 9]).length), ?_, fun W hW => ?_⟩
  · have hr := trimRight_take bs [32, 9]
    have ht := trimS_drop bs [32, 9]
    have hle : (Lib.trimS bs [32, 9]).length ≤ (Lib.trimRightS bs [32, 9]).length := by
      unfold Lib.trimS Lib.trimLeftS
      exact (List.dropWhile_suffix _).length_le
    have hle2 : (Lib.trimRightS bs [32, 9]).length ≤ bs.length := by
      rw [hr, List.length_take]; omega
    unfold Lib.leftV
    split
    · rename_i he
      have h0 : Lib.trimS bs [32, 9] = [] := by
        rw [ht]
        exact List.drop_eq_nil_of_le (by omega)
      rw [h0]
      exact ⟨none, 0, rfl, fun hne => absurd rfl hne, .inl rfl, by simp, by omega⟩
    · conv => rhs; rw [ht]
      refine fromV_slv ?_ h2 c _ (by omega) h4
      rw [hr]
      exact h1.take _
  · have H := Any.bytes_Trim_laid Tryz.laysV6 (by kernel_rfl) p bs.length c (nums bs) ⟨#[32, 9]⟩ W (nums_length bs) h3 (by omega) (h1.below hW).bytesIn (nums_range bs) (by decide) blanks_ascii
    rw [bytesOf_nums] at H
    exact H

/-- bytes.Cut at a colon. -/
def cutAns (b o n c : Nat) (i : Int) : Value := Lib.cutV (some ⟨b, o, none⟩) n c 1 i
theorem cut_any {w : World} {b o : Nat} {L : List UInt8} (h : Holds w b o L) (c q : Nat) (hc : L.length ≤ c) (hs : L.length < 4294967281)
    (hq : w.cell? ⟨q, 0, none⟩ = some (.int .u8 58)) (hm : ∃ m, w.cell? ⟨6, 0, none⟩ = some (.int .i64 m)) :
    Calls Tryz.prog 47 #[.slice (some ⟨b, o, none⟩) L.length c, .slice (some ⟨q, 0, none⟩) 1 1] w fun e w' => e = .returned (Lib.cutV (some ⟨b, o, none⟩) L.length c 1 (Lib.indexByte L 58)) ∧ ∃ n, w' = w.drewN n := by
  obtain ⟨m, hm⟩ := hm
  have H := Any.bytes_Cut_all Tryz.laysT4 (some ⟨b, o, none⟩) (some ⟨q, 0, none⟩) L.length c 1 1 (nums L) [58] m w (nums_length _) rfl (nums_range _) (by simp) h.bytesIn
    (fun _ => ⟨q, 0, rfl, fun i hi => by obtain rfl : i = 0 := by omega
                                         exact hq⟩) (by simp) hc hs (by decide) hm
  rw [bytesOf_nums] at H
  have e : Lib.index L (Lib.bytesOf [58]) = Lib.indexByte L 58 := by
    show Lib.index L [58] = _
    rw [Lib.index_one]
  rw [e] at H
  exact H
theorem indexByte_len : ∀ (l : List UInt8) (c : UInt8), Lib.indexByte l c = -1 ∨ (0 ≤ Lib.indexByte l c ∧ (Lib.indexByte l c).toNat < l.length) := by
  intro l c
  have h := Lib.indexByte_ge l c
  by_cases h0 : Lib.indexByte l c = -1
  · exact .inl h0
  · right
    have h1 : 0 ≤ Lib.indexByte l c := by omega
    refine ⟨h1, ?_⟩
    have h2 := (Lib.indexByte_some (o := (Lib.indexByte l c).toNat) (by omega : Lib.indexByte l c = _)).1
    exact (List.getElem?_eq_some_iff.1 h2).1

/-- the line without its comment; its field. -/
def noHash (L : List UInt8) : List UInt8 := if 0 ≤ Lib.indexByte L 35 then L.take (Lib.indexByte L 35).toNat else L
def fieldOf (L : List UInt8) : Option (List UInt8 × List UInt8) :=
  if 0 ≤ Lib.indexByte (noHash L) 58 then some (Lib.toLowerD (Lib.trimS ((noHash L).take (Lib.indexByte (noHash L) 58).toNat) [32, 9]), Lib.trimS ((noHash L).drop ((Lib.indexByte (noHash L) 58).toNat + 1)) [32, 9]) else none
def fieldV3 (L : List UInt8) : Value := match fieldOf L with
  | some (k, v) => .tuple #[.string ⟨k.toArray⟩, .string ⟨v.toArray⟩, .bool true]
  | none => .tuple #[.string ⟨#[]⟩, .string ⟨#[]⟩, .bool false]
end Go.Proofs.Qxb6615497aGreatDoor
