import Derived.Test.Qxb6615497aGreatDoorShelf
import Derived.Test.Qxb6615497aGreatDoorW4
import Derived.Test.Qxb6615497aGreatDoorW11
import Derived.Shelf.Spec.BytesIndexFunc
import Derived.Lib.IndexLaws
import Derived.Test.Qxb6615497aGreatDoorW6
/- The callees' contracts in this text's words; the field of a line. -/
namespace Go.Proofs.Qxb6615497aGreatDoor
open Go.RowKit

/-- the bytes bs lie from ⟨b, o⟩ on. -/
def Holds (w : World) (b o : Nat) (bs : List UInt8) : Prop := ∀ i x, bs[i]? = some x → w.cell? ⟨b, o + i, none⟩ = some (.int .u8 (x.toNat : Int))

theorem Holds.below {w w' : World} {b o : Nat} {bs : List UInt8} (h : Holds w b o bs) (hb : Below w.heap.size w w') : Holds w' b o bs :=
  fun i x hi => (hb.cell (p := ⟨b, o + i, none⟩) (block_lt_of_cell (h i x hi))).trans (h i x hi)
theorem Holds.left {w : World} {b o : Nat} {x y : List UInt8} (h : Holds w b o (x ++ y)) : Holds w b o x :=
  fun i z hi => h i z (by rw [List.getElem?_append_left (List.getElem?_eq_some_iff.1 hi).1]; exact hi)
theorem Holds.right {w : World} {b o : Nat} {x y : List UInt8} (h : Holds w b o (x ++ y)) : Holds w b (o + x.length) y := fun i z hi => by
  have := h (x.length + i) z (by rw [List.getElem?_append_right (by omega)]; simpa using hi)
  rw [Nat.add_assoc]; exact this

def nums (bs : List UInt8) : List Int := bs.map fun b => (b.toNat : Int)
theorem nums_length (bs : List UInt8) : (nums bs).length = bs.length := by simp [nums]
theorem nums_range (bs : List UInt8) : ∀ x ∈ nums bs, 0 ≤ x ∧ x < 256 := by
  intro x hx
  simp [nums] at hx
  obtain ⟨b, _, rfl⟩ := hx
  have := UInt8.toNat_lt b
  omega
theorem bytesOf_nums (bs : List UInt8) : Lib.bytesOf (nums bs) = bs := by
  unfold Lib.bytesOf nums
  rw [List.map_map]
  conv => rhs; rw [← List.map_id bs]
  apply List.map_congr_left
  intro b _
  simp
theorem Holds.num {w : World} {b o : Nat} {bs : List UInt8} (h : Holds w b o bs) (i : Nat) (hi : i < bs.length) : w.cell? ⟨b, o + i, none⟩ = some (.int .u8 ((nums bs).getD i 0)) := by
  rw [h i (bs[i]'hi) (List.getElem?_eq_getElem hi)]
  simp [nums, List.getD, hi]
theorem Holds.bytesIn {w : World} {b o : Nat} {bs : List UInt8} (h : Holds w b o bs) : Lib.BytesIn w (some ⟨b, o, none⟩) bs.length (nums bs) :=
  fun _ => ⟨b, o, rfl, fun i hi => h.num i hi⟩
theorem Holds.bytesAt {w : World} {b o : Nat} {bs : List UInt8} (h : Holds w b o bs) : Lib.BytesAt w (some ⟨b, o, none⟩) bs.length bs :=
  fun _ => ⟨b, o, rfl, fun i hi => by
    rw [h i (bs[i]'hi) (List.getElem?_eq_getElem hi)]
    simp [List.getD, hi]⟩
theorem Holds.text {w : World} {b o : Nat} {bs : List UInt8} (h : Holds w b o bs) (c : Nat) : (convert 22 9 (.slice (some ⟨b, o, none⟩) bs.length c)).run Tryz.prog w = .ok (.string ⟨bs.toArray⟩) w :=
  run_convert_bytes_back w 22 9 5 ⟨b, o, none⟩ c bs Tryz.underlying22 Tryz.underlying5 Tryz.underlying9 fun j hj => by
    have hadd : (⟨b, o, none⟩ : Addr).add j = ⟨b, o + j, none⟩ := by unfold Addr.add; split <;> simp_all
    rw [hadd, h j (bs[j]'hj) (List.getElem?_eq_getElem hj)]

theorem indexByte_not : ∀ (l : List UInt8) (c : UInt8), (∀ x ∈ l, x ≠ c) → Lib.indexByte l c = -1
  | [], _, _ => rfl
  | b :: l, c, h => by
    have hb : (b == c) = false := by simpa using h b (by simp)
    have ih := indexByte_not l c (fun x hx => h x (by simp [hx]))
    simp [Lib.indexByte, hb, ih]
theorem indexByte_split : ∀ (K : List UInt8) (c : UInt8) (V : List UInt8), (∀ x ∈ K, x ≠ c) → Lib.indexByte (K ++ c :: V) c = K.length
  | [], c, V, _ => by simp [Lib.indexByte]
  | b :: K, c, V, h => by
    have hb : (b == c) = false := by simpa using h b (by simp)
    have ih := indexByte_split K c V (fun x hx => h x (by simp [hx]))
    have hne : ((K.length : Int) == -1) = false := by simp
    simp [Lib.indexByte, hb, ih, hne]

theorem indexByte_h {w : World} {b o : Nat} {bs : List UInt8} (h : Holds w b o bs) (c : Nat) :
    Calls Tryz.prog 46 #[.slice (some ⟨b, o, none⟩) bs.length c, .int .u8 35] w fun e w' => e = .returned (.int .i64 (Lib.indexByte bs 35)) ∧ w' = w := by
  have H := Any.bytes_IndexByte_at Tryz.lays187 ⟨b, o, none⟩ bs.length c (nums bs) 35 w (nums_length bs) (fun i hi => by
    have hadd : (⟨b, o, none⟩ : Addr).add i = ⟨b, o + i, none⟩ := by unfold Addr.add; split <;> simp_all
    rw [hadd]; exact h.num i hi)
  rw [bytesOf_nums] at H
  exact H

theorem cut_h {w : World} {b o : Nat} {K V : List UInt8} (h : Holds w b o (K ++ 58 :: V)) (c q : Nat) (hc : (K ++ 58 :: V).length ≤ c) (hs : (K ++ 58 :: V).length < 4294967281) (hK : ∀ x ∈ K, x ≠ 58) (hV : V ≠ [])
    (hq : w.cell? ⟨q, 0, none⟩ = some (.int .u8 58)) (hm : ∃ m, w.cell? ⟨6, 0, none⟩ = some (.int .i64 m)) :
    Calls Tryz.prog 47 #[.slice (some ⟨b, o, none⟩) (K ++ 58 :: V).length c, .slice (some ⟨q, 0, none⟩) 1 1] w fun e w' => e = .returned (.tuple #[.slice (some ⟨b, o, none⟩) K.length c, .slice (some ⟨b, o + (K.length + 1), none⟩) V.length (c - (K.length + 1)), .bool true]) ∧ ∃ n, w' = w.drewN n := by
  obtain ⟨m, hm⟩ := hm
  have H := Any.bytes_Cut_all Tryz.laysT4 (some ⟨b, o, none⟩) (some ⟨q, 0, none⟩) (K ++ 58 :: V).length c 1 1 (nums (K ++ 58 :: V)) [58] m w (nums_length _) rfl (nums_range _) (by simp) h.bytesIn
    (fun _ => ⟨q, 0, rfl, fun i hi => by obtain rfl : i = 0 := by omega
                                         exact hq⟩) (by simp) hc hs (by decide) hm
  rw [bytesOf_nums] at H
  have e : Lib.index (K ++ 58 :: V) (Lib.bytesOf [58]) = (K.length : Int) := by
    show Lib.index (K ++ 58 :: V) [58] = _
    rw [Lib.index_one, indexByte_split K 58 V hK]
  rw [e] at H
  have hv : V.length ≠ 0 := fun h0 => hV (List.eq_nil_of_length_eq_zero h0)
  have ev : Lib.cutV (some ⟨b, o, none⟩) (K ++ 58 :: V).length c 1 (K.length : Int) = .tuple #[.slice (some ⟨b, o, none⟩) K.length c, .slice (some ⟨b, o + (K.length + 1), none⟩) V.length (c - (K.length + 1)), .bool true] := by
    unfold Lib.cutV Lib.fromV
    have hadd : (⟨b, o, none⟩ : Addr).add (K.length + 1) = ⟨b, o + (K.length + 1), none⟩ := by unfold Addr.add; split <;> simp_all
    have hl : (K ++ 58 :: V).length = K.length + 1 + V.length := by simp; omega
    rw [if_pos (by omega), Int.toNat_natCast, if_neg (by omega), hl]
    simp only [Option.map_some, hadd]
    rw [show K.length + 1 + V.length - (K.length + 1) = V.length by omega]
  rw [ev] at H
  exact H

theorem blanks_ascii : ∀ (j : Nat) (b : UInt8), (⟨#[32, 9]⟩ : ByteArray).data.toList[j]? = some b → b.toNat < 128 := by
  intro j b h
  have hm : b ∈ [32, 9] := List.mem_of_getElem? h
  simp at hm
  rcases hm with rfl | rfl <;> decide

/-- bytes.Trim at a key that has no blanks at its ends. -/
theorem trim_same {w : World} {b o : Nat} {bs : List UInt8} (h : Holds w b o bs) (c : Nat) (hc : bs.length ≤ c) (hs : c ≤ 9223372036854775807) (h0 : bs ≠ []) (hr : Lib.trimRightS bs [32, 9] = bs) (ht : Lib.trimS bs [32, 9] = bs) :
    Calls Tryz.prog 49 #[.slice (some ⟨b, o, none⟩) bs.length c, .string ⟨#[32, 9]⟩] w fun e w' => e = .returned (.slice (some ⟨b, o, none⟩) bs.length c) ∧ Below w.heap.size w w' := by
  have H := Any.bytes_Trim_laid Tryz.laysV6 (by kernel_rfl) (some ⟨b, o, none⟩) bs.length c (nums bs) ⟨#[32, 9]⟩ w (nums_length bs) hc hs h.bytesIn (nums_range bs) (by decide) blanks_ascii
  rw [bytesOf_nums] at H
  have e9 : (⟨#[32, 9]⟩ : ByteArray).data.toList = [32, 9] := rfl
  rw [e9, hr, ht] at H
  have hl : bs.length ≠ 0 := fun e => h0 (List.eq_nil_of_length_eq_zero e)
  have ev : Lib.leftV (some ⟨b, o, none⟩) bs.length c (bs.length - bs.length) = .slice (some ⟨b, o, none⟩) bs.length c := by
    unfold Lib.leftV Lib.fromV
    have hadd : (⟨b, o, none⟩ : Addr).add 0 = ⟨b, o, none⟩ := by unfold Addr.add; split <;> simp_all
    rw [Nat.sub_self, if_neg (by omega), if_neg (by omega)]
    simp [hadd]
  rw [ev] at H
  exact H

/-- .. at a value behind one blank. -/
theorem trim_blank {w : World} {b o : Nat} {bs : List UInt8} (h : Holds w b o (32 :: bs)) (c : Nat) (hc : bs.length + 1 ≤ c) (hs : c ≤ 9223372036854775807) (h0 : bs ≠ []) (hr : Lib.trimRightS (32 :: bs) [32, 9] = 32 :: bs) (ht : Lib.trimS (32 :: bs) [32, 9] = bs) :
    Calls Tryz.prog 49 #[.slice (some ⟨b, o, none⟩) (bs.length + 1) c, .string ⟨#[32, 9]⟩] w fun e w' => e = .returned (.slice (some ⟨b, o + 1, none⟩) bs.length (c - 1)) ∧ Below w.heap.size w w' := by
  have H := Any.bytes_Trim_laid Tryz.laysV6 (by kernel_rfl) (some ⟨b, o, none⟩) (32 :: bs).length c (nums (32 :: bs)) ⟨#[32, 9]⟩ w (nums_length _) hc hs h.bytesIn (nums_range _) (by decide) blanks_ascii
  rw [bytesOf_nums] at H
  have e9 : (⟨#[32, 9]⟩ : ByteArray).data.toList = [32, 9] := rfl
  rw [e9, hr, ht] at H
  have hl : bs.length ≠ 0 := fun e => h0 (List.eq_nil_of_length_eq_zero e)
  have ev : Lib.leftV (some ⟨b, o, none⟩) (32 :: bs).length c ((32 :: bs).length - bs.length) = .slice (some ⟨b, o + 1, none⟩) bs.length (c - 1) := by
    unfold Lib.leftV Lib.fromV
    have hadd : (⟨b, o, none⟩ : Addr).add 1 = ⟨b, o + 1, none⟩ := by unfold Addr.add; split <;> simp_all
    rw [List.length_cons, show bs.length + 1 - bs.length = 1 by omega, if_neg (by omega), if_neg (by omega)]
    simp only [Option.map_some, hadd]
    rw [show bs.length + 1 - 1 = bs.length by omega]
  rw [ev] at H
  exact H

theorem alloc_marked_below (w : World) (C : Array Value) (t : TypeId) (fr : Nat × Nat) : Below w.heap.size w (w.alloc (.cells C t fr)) := (Below.refl _ w).alloc (Nat.le_refl _) _

/-- The field of a line: a key, a colon, a blank, a value; behind them nothing, or a comment. -/
theorem fieldIs_of {w : World} {b o : Nat} (K V post : List UInt8) (hH : Holds w b o ((K ++ 58 :: (32 :: V)) ++ post)) (hpost : post = [] ∨ ∃ t, post = 35 :: t) (hs : ((K ++ 58 :: (32 :: V)) ++ post).length < 4294967281)
    (hK : ∀ x ∈ K, x ≠ 58) (hn : ∀ x ∈ K ++ 58 :: (32 :: V), x ≠ 35) (hKa : ∀ x ∈ K, x.toNat < 128) (hK0 : K ≠ []) (hV0 : V ≠ []) (hKr : Lib.trimRightS K [32, 9] = K) (hKt : Lib.trimS K [32, 9] = K) (hVr : Lib.trimRightS (32 :: V) [32, 9] = 32 :: V) (hVt : Lib.trimS (32 :: V) [32, 9] = V)
    (hm : ∃ m, w.cell? ⟨6, 0, none⟩ = some (.int .i64 m)) :
    FieldIs (.slice (some ⟨b, o, none⟩) ((K ++ 58 :: (32 :: V)) ++ post).length ((K ++ 58 :: (32 :: V)) ++ post).length) ⟨(Lib.toLowerA K).toArray⟩ ⟨V.toArray⟩ w := by
  intro W hW
  have hHW := hH.below hW
  have hmW : ∃ m, W.cell? ⟨6, 0, none⟩ = some (.int .i64 m) := by
    obtain ⟨m, hm⟩ := hm
    exact ⟨m, (hW.cell (p := ⟨6, 0, none⟩) (block_lt_of_cell hm)).trans hm⟩
  have hpre := hHW.left
  have hkey : Holds W b o K := hpre.left
  have hcv : Holds W b (o + K.length) (58 :: (32 :: V)) := hpre.right
  have hval : Holds W b (o + (K.length + 1)) (32 :: V) := by
    have := Holds.right (x := [58]) (y := 32 :: V) hcv
    rw [← Nat.add_assoc]; exact this
  have hval1 : Holds W b (o + (K.length + 1) + 1) V := Holds.right (x := [32]) (y := V) hval
  have hlen : (K ++ 58 :: (32 :: V)).length = K.length + V.length + 2 := by simp; omega
  have hlen2 : ((K ++ 58 :: (32 :: V)) ++ post).length = K.length + V.length + 2 + post.length := by rw [List.length_append, hlen]
  have hbel : ∀ W2, Below W.heap.size W W2 → Below W.heap.size W W2 := fun _ h => h
  refine robotsField_of b o _ _ (K ++ 58 :: (32 :: V)).length (Lib.indexByte ((K ++ 58 :: (32 :: V)) ++ post) 35) W b o K.length ((K ++ 58 :: (32 :: V)) ++ post).length b (o + (K.length + 1)) (V.length + 1) (((K ++ 58 :: (32 :: V)) ++ post).length - (K.length + 1)) b o K.length ((K ++ 58 :: (32 :: V)) ++ post).length b (o + (K.length + 1) + 1) V.length (((K ++ 58 :: (32 :: V)) ++ post).length - (K.length + 1) - 1)
    ⟨K.toArray⟩ ⟨(Lib.toLowerA K).toArray⟩ ⟨V.toArray⟩ (Nat.le_refl _) ?_ (indexByte_h hHW _) ?_ ?_ ?_ ?_ ?_ ?_
  · rcases hpost with rfl | ⟨t, rfl⟩
    · refine .inl ⟨indexByte_not _ _ ?_, by simp⟩
      rw [List.append_nil]; exact hn
    · exact .inr ⟨indexByte_split _ _ _ hn, by rw [hlen2]; omega⟩
  · have hb1 := alloc_marked_below W #[.int .u8 58] 5 (1, 2)
    refine (cut_h (hpre.below hb1) _ W.heap.size (by rw [hlen, hlen2]; omega) (by rw [hlen]; omega) hK (by simp) (by rw [World.cell?_alloc_mark]; rfl) ?_).mono ?_
    · obtain ⟨m, hm⟩ := hmW
      exact ⟨m, (hb1.cell (p := ⟨6, 0, none⟩) (block_lt_of_cell hm)).trans hm⟩
    · rintro e w' ⟨rfl, n, rfl⟩
      exact ⟨rfl, belowDrewN hb1 n⟩
  · intro W2 h2
    exact trim_same (hkey.below h2) _ (by rw [hlen2]; omega) (by omega) hK0 hKr hKt
  · intro W2 h2
    exact trim_blank (hval.below h2) _ (by rw [hlen2]; omega) (by omega) hV0 hVr hVt
  · intro W2 h2
    exact Tryz.strings_ToLower_ascii ⟨K.toArray⟩ W2 (by show K.toArray.size ≤ _; simp; omega) (fun j x hx => hKa x (List.mem_of_getElem? hx))
  · intro W2 h2
    exact (hkey.below h2).text _
  · intro W2 h2
    exact (hval1.below h2).text _

theorem Holds.whole {w : World} {b : Nat} {s : ByteArray} (h : Holds w b 0 s.data.toList) : BytesAt s b 0 w := fun j hj => by
  have hj' : j < s.data.toList.length := by simpa using hj
  have e : s.data.toList[j]'hj' = s.get! j := by
    cases s with
    | mk d =>
      have hd : j < d.size := hj
      show d.toList[j] = d[j]!
      simp [hd]
  rw [h j (s.data.toList[j]'hj') (List.getElem?_eq_getElem hj'), e]

theorem decodesAt {b cap : Nat} {s : ByteArray} {w : World} (hB : BytesAt s b 0 w) (hT : Lib.Utf8Tabs 4 5 w) : DecodesAt b 0 cap s w := by
  intro W pos hbw hlt
  have cD := Any7.utf8_DecodeRune Tryz.laysD32 (s.extract pos s.size) b (0 + pos) (cap - pos) W (Utf8Tabs_below hT hbw) ((hB.below hbw).tail pos)
  rw [Lib.tail_size] at cD
  rw [decodeGo_tail s pos hlt] at cD
  exact cD

theorem linesAre {b cap : Nat} {s : ByteArray} {w : World} (hB : BytesAt s b 0 w) (hT : Lib.Utf8Tabs 4 5 w) (hs : s.size ≤ 4294967296) (hcap : s.size ≤ cap) : LinesAre b s.size cap (Lib.spansOfP isEol s) w := by
  intro W hW
  refine (fieldsFunc_any b 0 cap s W hs hcap (decodesAt (hB.below hW) (Utf8Tabs_below hT hW))).mono ?_
  rintro e W' ⟨A, rfl, hA, hown, hb⟩
  refine ⟨A, rfl, hA, fun i x hx => ?_, hb⟩
  have hi : i < (Lib.spansOfP isEol s).length := (List.getElem?_eq_some_iff.1 hx).1
  have := hown.cellAt i (by omega)
  rw [this, List.getElem?_map, hx]
  rfl

theorem trimsNone {w : World} {b c : Nat} {t : List UInt8} (hH : Holds w b 0 (85 :: t)) (hc : t.length + 1 ≤ c) : TrimsNone b (t.length + 1) c w := by
  intro W q hW c0 c1 c2
  have H := Any.bytes_TrimPrefix_all Tryz.lays139 (some ⟨b, 0, none⟩) (some ⟨q, 0, none⟩) (t.length + 1) c 3 3 (nums (85 :: t)) [239, 187, 191] W (nums_length _) rfl hc (hH.below hW).bytesIn
    (fun _ => ⟨q, 0, rfl, fun i hi => by
      match i, hi with
      | 0, _ => exact c0
      | 1, _ => exact c1
      | 2, _ => exact c2⟩)
  have ev : Lib.trimPrefixV (some ⟨b, 0, none⟩) (t.length + 1) c (nums (85 :: t)) [239, 187, 191] = .slice (some ⟨b, 0, none⟩) (t.length + 1) c := by
    show Lib.bytesTrimPrefix b 0 (t.length + 1) c (nums (85 :: t)) [239, 187, 191] = _
    unfold Lib.bytesTrimPrefix
    rw [if_neg]
    rw [bytesOf_nums]
    simp [Lib.hasPrefix, Lib.bytesOf]
  rw [ev] at H
  exact H

theorem foldsNot : FoldsNot := fun W => by
  refine (Tryz.strings_EqualFold ⟨#[]⟩ botB W (by decide) (fun j b h => by simp at h) (fun j b h => ?_)).mono ?_
  · have hm : b ∈ [98, 111, 116] := List.mem_of_getElem? h
    simp at hm
    rcases hm with rfl | rfl | rfl <;> decide
  · rintro e w' ⟨rfl, rfl⟩
    exact ⟨rfl, Below.refl _ _⟩

theorem writesByte : WritesByte := fun B b bs c w h hl hB => Tryz.Builder_WriteByte B b bs c w h hl hB
theorem toldString : ToldString := fun B b l w h hB => Tryz.Builder_String_any B b l w h hB

theorem bomLaid (W : World) : (convert 22 22 (.slice (some ⟨W.heap.size, 0, none⟩) 3 3)).run Tryz.prog (W.alloc (.cells #[.int .u8 239, .int .u8 187, .int .u8 191] 5)) = .ok (.slice (some ⟨W.heap.size, 0, none⟩) 3 3) (W.alloc (.cells #[.int .u8 239, .int .u8 187, .int .u8 191] 5 (3, 4))) :=
  Lib.run_convert_bytes_const (P := Tryz.prog) W 22 5 #[.int .u8 239, .int .u8 187, .int .u8 191] 3 3 Tryz.underlying22 Tryz.underlying5

end Go.Proofs.Qxb6615497aGreatDoor
