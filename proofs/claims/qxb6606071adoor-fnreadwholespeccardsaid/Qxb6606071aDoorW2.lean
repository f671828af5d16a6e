import Derived.Test.Qxb6606071aDoorW1
import Derived.Deep.Cut
import Derived.Deep.CutRange
import Derived.Deep.CutBlock
namespace Go.Proofs.Qxb6606071aDoor
open Go.RowKit

/-- the result's six cells. -/
structure St (w W : World) (a b c d e f : ByteArray) : Prop where
  below : Below w.heap.size w W
  c0 : W.cell? ⟨w.heap.size, 0, none⟩ = some (.string a)
  c1 : W.cell? ⟨w.heap.size, 1, none⟩ = some (.string b)
  c2 : W.cell? ⟨w.heap.size, 2, none⟩ = some (.string c)
  c3 : W.cell? ⟨w.heap.size, 3, none⟩ = some (.string d)
  c4 : W.cell? ⟨w.heap.size, 4, none⟩ = some (.string e)
  c5 : W.cell? ⟨w.heap.size, 5, none⟩ = some (.string f)
  f0 : W.frozen? ⟨w.heap.size, 0, none⟩ = false
  f1 : W.frozen? ⟨w.heap.size, 1, none⟩ = false
  f2 : W.frozen? ⟨w.heap.size, 2, none⟩ = false
  f3 : W.frozen? ⟨w.heap.size, 3, none⟩ = false
  f4 : W.frozen? ⟨w.heap.size, 4, none⟩ = false
  f5 : W.frozen? ⟨w.heap.size, 5, none⟩ = false

def emptyB : ByteArray := { data := #[] }
def resObj : Obj := Obj.cells #[.string { data := #[] }, .string { data := #[] }, .string { data := #[] }, .string { data := #[] }, .string { data := #[] }, .string { data := #[] }] 35

theorem St.start {w W : World} (hB : Below (w.heap.size + 1) (w.alloc resObj) W) : St w W emptyB emptyB emptyB emptyB emptyB emptyB := by
  have hc : ∀ j, j < 6 → W.cell? ⟨w.heap.size, j, none⟩ = some (.string emptyB) := by
    intro j hj
    rw [hB.cell (Nat.lt_succ_self _)]
    unfold resObj
    rw [World.cell?_alloc_mark]
    match j, hj with
    | 0, _ => rfl
    | 1, _ => rfl
    | 2, _ => rfl
    | 3, _ => rfl
    | 4, _ => rfl
    | 5, _ => rfl
  have hf : ∀ j, W.frozen? ⟨w.heap.size, j, none⟩ = false := by
    intro j
    rw [hB.frozen (Nat.lt_succ_self _)]
    unfold resObj
    rw [World.frozen?_alloc_mark]
    simp
  exact ⟨((Below.refl w.heap.size w).alloc (Nat.le_refl _) resObj).trans (hB.mono (by omega)), hc 0 (by omega), hc 1 (by omega), hc 2 (by omega), hc 3 (by omega), hc 4 (by omega), hc 5 (by omega), hf 0, hf 1, hf 2, hf 3, hf 4, hf 5⟩

theorem St.set0 {w W : World} {a b c d e f : ByteArray} (h : St w W a b c d e f) (x : ByteArray) : St w (W.setCell ⟨w.heap.size, 0, none⟩ (.string x)) x b c d e f := by
  obtain ⟨hb, c0, c1, c2, c3, c4, c5, f0, f1, f2, f3, f4, f5⟩ := h
  exact ⟨hb.setCell (p := ⟨w.heap.size, 0, none⟩) (Nat.le_refl _) _, by go_simp, by go_simp, by go_simp, by go_simp, by go_simp, by go_simp, by go_simp, by go_simp, by go_simp, by go_simp, by go_simp, by go_simp⟩
theorem St.set1 {w W : World} {a b c d e f : ByteArray} (h : St w W a b c d e f) (x : ByteArray) : St w (W.setCell ⟨w.heap.size, 1, none⟩ (.string x)) a x c d e f := by
  obtain ⟨hb, c0, c1, c2, c3, c4, c5, f0, f1, f2, f3, f4, f5⟩ := h
  exact ⟨hb.setCell (p := ⟨w.heap.size, 1, none⟩) (Nat.le_refl _) _, by go_simp, by go_simp, by go_simp, by go_simp, by go_simp, by go_simp, by go_simp, by go_simp, by go_simp, by go_simp, by go_simp, by go_simp⟩
theorem St.set2 {w W : World} {a b c d e f : ByteArray} (h : St w W a b c d e f) (x : ByteArray) : St w (W.setCell ⟨w.heap.size, 2, none⟩ (.string x)) a b x d e f := by
  obtain ⟨hb, c0, c1, c2, c3, c4, c5, f0, f1, f2, f3, f4, f5⟩ := h
  exact ⟨hb.setCell (p := ⟨w.heap.size, 2, none⟩) (Nat.le_refl _) _, by go_simp, by go_simp, by go_simp, by go_simp, by go_simp, by go_simp, by go_simp, by go_simp, by go_simp, by go_simp, by go_simp, by go_simp⟩
theorem St.set3 {w W : World} {a b c d e f : ByteArray} (h : St w W a b c d e f) (x : ByteArray) : St w (W.setCell ⟨w.heap.size, 3, none⟩ (.string x)) a b c x e f := by
  obtain ⟨hb, c0, c1, c2, c3, c4, c5, f0, f1, f2, f3, f4, f5⟩ := h
  exact ⟨hb.setCell (p := ⟨w.heap.size, 3, none⟩) (Nat.le_refl _) _, by go_simp, by go_simp, by go_simp, by go_simp, by go_simp, by go_simp, by go_simp, by go_simp, by go_simp, by go_simp, by go_simp, by go_simp⟩
theorem St.set4 {w W : World} {a b c d e f : ByteArray} (h : St w W a b c d e f) (x : ByteArray) : St w (W.setCell ⟨w.heap.size, 4, none⟩ (.string x)) a b c d x f := by
  obtain ⟨hb, c0, c1, c2, c3, c4, c5, f0, f1, f2, f3, f4, f5⟩ := h
  exact ⟨hb.setCell (p := ⟨w.heap.size, 4, none⟩) (Nat.le_refl _) _, by go_simp, by go_simp, by go_simp, by go_simp, by go_simp, by go_simp, by go_simp, by go_simp, by go_simp, by go_simp, by go_simp, by go_simp⟩
theorem St.set5 {w W : World} {a b c d e f : ByteArray} (h : St w W a b c d e f) (x : ByteArray) : St w (W.setCell ⟨w.heap.size, 5, none⟩ (.string x)) a b c d e x := by
  obtain ⟨hb, c0, c1, c2, c3, c4, c5, f0, f1, f2, f3, f4, f5⟩ := h
  exact ⟨hb.setCell (p := ⟨w.heap.size, 5, none⟩) (Nat.le_refl _) _, by go_simp, by go_simp, by go_simp, by go_simp, by go_simp, by go_simp, by go_simp, by go_simp, by go_simp, by go_simp, by go_simp, by go_simp⟩

theorem trimLeft_T (s : ByteArray) (w : World) :
    Calls Tryd.prog 18 #[.string s, .string { data := #[32, 9, 10, 13] }] w fun e w' => ∃ T : ByteArray, Hid (T.data.toList = trim s.data.toList) ∧ T.size ≤ s.size ∧ e = .returned (.string T) ∧ Below w.heap.size w w' := by
  refine (trimLeft_any s w).mono ?_
  rintro e w' ⟨rfl, hb⟩
  refine ⟨_, hide rfl, ?_, rfl, hb⟩
  have h := (List.dropWhile_sublist (l := s.data.toList) Pl.isBlank).length_le
  have e1 : (⟨(trim s.data.toList).toArray⟩ : ByteArray).size = (trim s.data.toList).length := rfl
  have e2 : s.size = s.data.toList.length := by simp
  rw [e1, e2]
  exact h

/-- a byte, read. -/
theorem byte_at (T : ByteArray) (k : Nat) : (T.size ≤ k ∧ T.data.toList[k]? = none) ∨ (∃ h : k < T.size, T.data.toList[k]? = some T[k]) := by
  by_cases h : k < T.size
  · exact .inr ⟨h, by rw [List.getElem?_eq_getElem (by simpa using h)]; rfl⟩
  · exact .inl ⟨by omega, List.getElem?_eq_none (by simp; omega)⟩
theorem isSign_int (c : UInt8) : Pl.isSign c = (((c.toNat : Int) == 43) || ((c.toNat : Int) == 45)) := by
  have h1 := u8_beq c 43 (by omega)
  have h2 := u8_beq c 45 (by omega)
  exact (congr (congrArg or h1) h2).symm
theorem isE_int (c : UInt8) : Pl.isE c = (((c.toNat : Int) == 101) || ((c.toNat : Int) == 69)) := by
  have h1 := u8_beq c 101 (by omega)
  have h2 := u8_beq c 69 (by omega)
  exact (congr (congrArg or h1) h2).symm

/-- is there a sign at k? -/
def sgnAt (l : List UInt8) (k : Nat) : Bool := match l[k]? with | some c => Pl.isSign c | none => false
def eAt (l : List UInt8) (k : Nat) : Bool := match l[k]? with | some c => Pl.isE c | none => false
def dotAt (l : List UInt8) (k : Nat) : Bool := match l[k]? with | some c => c == 46 | none => false

theorem sgn_cases (T : ByteArray) (k : Nat) : (T.size ≤ k ∧ Hid (sgnAt T.data.toList k = false)) ∨ (∃ h : k < T.size, ((T[k].toNat : Int) == 43) = true ∧ Hid (sgnAt T.data.toList k = true)) ∨ (∃ h : k < T.size, ((T[k].toNat : Int) == 43) = false ∧ ((T[k].toNat : Int) == 45) = true ∧ Hid (sgnAt T.data.toList k = true)) ∨ (∃ h : k < T.size, ((T[k].toNat : Int) == 43) = false ∧ ((T[k].toNat : Int) == 45) = false ∧ Hid (sgnAt T.data.toList k = false)) := by
  rcases byte_at T k with ⟨h, e⟩ | ⟨h, e⟩
  · exact .inl ⟨h, hide (by unfold sgnAt; rw [e])⟩
  · right
    have hs : sgnAt T.data.toList k = (((T[k].toNat : Int) == 43) || ((T[k].toNat : Int) == 45)) := by unfold sgnAt; rw [e]; exact isSign_int _
    cases h1 : ((T[k].toNat : Int) == 43) with
    | true => exact .inl ⟨h, h1, hide (by rw [hs, h1]; rfl)⟩
    | false =>
      right
      cases h2 : ((T[k].toNat : Int) == 45) with
      | true => exact .inl ⟨h, h1, h2, hide (by rw [hs, h1, h2]; rfl)⟩
      | false => exact .inr ⟨h, h1, h2, hide (by rw [hs, h1, h2]; rfl)⟩
theorem e_cases (T : ByteArray) (k : Nat) : (T.size ≤ k ∧ Hid (eAt T.data.toList k = false)) ∨ (∃ h : k < T.size, ((T[k].toNat : Int) == 101) = true ∧ Hid (eAt T.data.toList k = true)) ∨ (∃ h : k < T.size, ((T[k].toNat : Int) == 101) = false ∧ ((T[k].toNat : Int) == 69) = true ∧ Hid (eAt T.data.toList k = true)) ∨ (∃ h : k < T.size, ((T[k].toNat : Int) == 101) = false ∧ ((T[k].toNat : Int) == 69) = false ∧ Hid (eAt T.data.toList k = false)) := by
  rcases byte_at T k with ⟨h, e⟩ | ⟨h, e⟩
  · exact .inl ⟨h, hide (by unfold eAt; rw [e])⟩
  · right
    have hs : eAt T.data.toList k = (((T[k].toNat : Int) == 101) || ((T[k].toNat : Int) == 69)) := by unfold eAt; rw [e]; exact isE_int _
    cases h1 : ((T[k].toNat : Int) == 101) with
    | true => exact .inl ⟨h, h1, hide (by rw [hs, h1]; rfl)⟩
    | false =>
      right
      cases h2 : ((T[k].toNat : Int) == 69) with
      | true => exact .inl ⟨h, h1, h2, hide (by rw [hs, h1, h2]; rfl)⟩
      | false => exact .inr ⟨h, h1, h2, hide (by rw [hs, h1, h2]; rfl)⟩
theorem dot_cases (T : ByteArray) (k : Nat) : (T.size ≤ k ∧ Hid (dotAt T.data.toList k = false)) ∨ (∃ h : k < T.size, ((T[k].toNat : Int) == 46) = true ∧ Hid (dotAt T.data.toList k = true)) ∨ (∃ h : k < T.size, ((T[k].toNat : Int) == 46) = false ∧ Hid (dotAt T.data.toList k = false)) := by
  rcases byte_at T k with ⟨h, e⟩ | ⟨h, e⟩
  · exact .inl ⟨h, hide (by unfold dotAt; rw [e])⟩
  · right
    have hs : dotAt T.data.toList k = ((T[k].toNat : Int) == 46) := by unfold dotAt; rw [e]; exact (u8_beq T[k] 46 (by omega)).symm
    cases h1 : ((T[k].toNat : Int) == 46) with
    | true => exact .inl ⟨h, h1, hide (by rw [hs, h1])⟩
    | false => exact .inr ⟨h, h1, hide (by rw [hs, h1])⟩

theorem sg_at (l : List UInt8) : Pl.sg l = if sgnAt l 0 then 1 else 0 := by
  cases l <;> simp [Pl.sg, sgnAt]
theorem sg_le (T : ByteArray) : Pl.sg T.data.toList ≤ T.size := by
  have e : T.size = T.data.toList.length := by simp
  rw [e]
  cases T.data.toList with
  | nil => simp [Pl.sg]
  | cons c l => simp only [Pl.sg, List.length_cons]; split <;> omega
theorem cnt_le (T : ByteArray) (a : Nat) (ha : a ≤ T.size) : a + Pl.nd (T.data.toList.drop a) ≤ T.size := by
  have h := nd_le (T.data.toList.drop a)
  have e : T.size = T.data.toList.length := by simp
  rw [List.length_drop] at h
  omega
theorem count_drop (T : ByteArray) (a : Nat) (hT : T.size ≤ 1048576) (w : World) : Calls Tryd.prog 19 #[.string (T.extract a T.size)] w fun e w' => e = .returned (.int .i64 (Pl.nd (T.data.toList.drop a) : Nat)) ∧ w' = w := by
  have h := count_any (T.extract a T.size) w (by simp; omega)
  have e : (T.extract a T.size).data.toList = T.data.toList.drop a := by simp [List.take_of_length_le]
  rw [e] at h
  exact h

theorem piece_empty (T : ByteArray) (a b n : Nat) (h : b = a + n) (hb : b ≤ T.size) : (T.extract a b).toList.isEmpty = decide (n = 0) := by
  have e : (T.extract a b).toList.length = n := by
    rw [ByteArray.toList_eq]
    have : (T.extract a b).data.toList.length = (T.extract a b).size := rfl
    rw [this, ByteArray.size_extract]; omega
  cases hl : (T.extract a b).toList with
  | nil => rw [hl] at e; simp at e; simp [← e]
  | cons x l => rw [hl] at e; simp at e; simp; omega
def frOf (l : List UInt8) (e1 : Nat) : Nat := if dotAt l e1 then Pl.nd (l.drop (e1 + 1)) else 0
def FOf (T : ByteArray) (e1 : Nat) : ByteArray := if dotAt T.data.toList e1 then T.extract (e1 + 1) (e1 + 1 + Pl.nd (T.data.toList.drop (e1 + 1))) else emptyB
def e2Of (l : List UInt8) (i1 e1 : Nat) : Nat := if dotAt l e1 then (if i1 = 0 ∧ Pl.nd (l.drop (e1 + 1)) = 0 then e1 else e1 + 1 + Pl.nd (l.drop (e1 + 1))) else e1
theorem frAll (T : ByteArray) (e1 i1 : Nat) : (dotAt T.data.toList e1 = false → e2Of T.data.toList i1 e1 = e1 ∧ FOf T e1 = emptyB) ∧ (dotAt T.data.toList e1 = true → e2Of T.data.toList i1 e1 = (if i1 = 0 ∧ Pl.nd (T.data.toList.drop (e1 + 1)) = 0 then e1 else e1 + 1 + Pl.nd (T.data.toList.drop (e1 + 1))) ∧ FOf T e1 = T.extract (e1 + 1) (e1 + 1 + Pl.nd (T.data.toList.drop (e1 + 1)))) := by
  unfold e2Of FOf
  constructor
  · intro h; rw [h]; exact ⟨rfl, rfl⟩
  · intro h; rw [h]; exact ⟨rfl, rfl⟩
theorem dot_lt (T : ByteArray) (e1 : Nat) : dotAt T.data.toList e1 = true → e1 < T.size := by
  intro h
  rcases byte_at T e1 with ⟨_, e⟩ | ⟨h2, _⟩
  · unfold dotAt at h; rw [e] at h; cases h
  · exact h2

def exOf (l : List UInt8) (e2 : Nat) : Option Nat := if eAt l e2 then Pl.ex (l.drop (e2 + 1)) else none
def endOf (l : List UInt8) (e2 : Nat) : Nat := match exOf l e2 with | some k => e2 + 1 + k | none => e2
def XOf (T : ByteArray) (e2 : Nat) : ByteArray := match exOf T.data.toList e2 with | some k => T.extract (e2 + 1) (e2 + 1 + k) | none => emptyB
/-- what scan answers. -/
def partsAt (T : ByteArray) (e0 i1 e1 e2 : Nat) : ByteArray × ByteArray × ByteArray × ByteArray × ByteArray × ByteArray × Bool :=
  if i1 = 0 ∧ frOf T.data.toList e1 = 0 then (emptyB, emptyB, emptyB, emptyB, emptyB, emptyB, false)
  else (T.extract 0 e0, T.extract e0 e1, FOf T e1, XOf T e2, T.extract 0 (endOf T.data.toList e2), T.extract (endOf T.data.toList e2) T.size, true)
def partsOf (T : ByteArray) : ByteArray × ByteArray × ByteArray × ByteArray × ByteArray × ByteArray × Bool :=
  partsAt T (Pl.sg T.data.toList) (Pl.nd (T.data.toList.drop (Pl.sg T.data.toList))) (Pl.sg T.data.toList + Pl.nd (T.data.toList.drop (Pl.sg T.data.toList)))
    (e2Of T.data.toList (Pl.nd (T.data.toList.drop (Pl.sg T.data.toList))) (Pl.sg T.data.toList + Pl.nd (T.data.toList.drop (Pl.sg T.data.toList))))
theorem FOf_empty (T : ByteArray) (e1 : Nat) : (FOf T e1).toList.isEmpty = decide (frOf T.data.toList e1 = 0) := by
  unfold FOf frOf
  cases h : dotAt T.data.toList e1 with
  | false =>
    have e : emptyB.toList = [] := by rw [ByteArray.toList_eq]; rfl
    simp [e]
  | true =>
    have hlt := dot_lt T e1 h
    exact piece_empty T (e1 + 1) _ _ rfl (cnt_le T (e1 + 1) (by omega))
theorem e2_le (T : ByteArray) (i1 e1 : Nat) (h : e1 ≤ T.size) : e2Of T.data.toList i1 e1 ≤ T.size := by
  unfold e2Of
  cases hd : dotAt T.data.toList e1 with
  | false => exact h
  | true =>
    have hlt := dot_lt T e1 hd
    have := cnt_le T (e1 + 1) (by omega)
    simp only [if_true]
    split <;> omega
theorem e_lt (T : ByteArray) (k : Nat) : eAt T.data.toList k = true → k < T.size := by
  intro h
  rcases byte_at T k with ⟨_, e⟩ | ⟨h2, _⟩
  · unfold eAt at h; rw [e] at h; cases h
  · exact h2
theorem sgn_lt (T : ByteArray) (k : Nat) : sgnAt T.data.toList k = true → k < T.size := by
  intro h
  rcases byte_at T k with ⟨_, e⟩ | ⟨h2, _⟩
  · unfold sgnAt at h; rw [e] at h; cases h
  · exact h2
theorem ex_at (l : List UInt8) (k : Nat) : Pl.ex (l.drop k) = if sgnAt l k then (if Pl.nd (l.drop (k + 1)) = 0 then none else some (Pl.nd (l.drop (k + 1)) + 1)) else (if Pl.nd (l.drop k) = 0 then none else some (Pl.nd (l.drop k))) := by
  have e : l.drop (k + 1) = (l.drop k).tail := by rw [List.tail_drop]
  have e2 : l[k]? = (l.drop k).head? := by rw [List.head?_drop]
  rw [e]
  unfold sgnAt
  rw [e2]
  cases l.drop k with
  | nil => rfl
  | cons c r => rfl

def xOf (l : List UInt8) (e2 : Nat) : Nat := if sgnAt l (e2 + 1) then e2 + 2 else e2 + 1
theorem exAll (T : ByteArray) (e2 : Nat) : (eAt T.data.toList e2 = false → endOf T.data.toList e2 = e2 ∧ XOf T e2 = emptyB) ∧ (eAt T.data.toList e2 = true → (Pl.nd (T.data.toList.drop (xOf T.data.toList e2)) = 0 → endOf T.data.toList e2 = e2 ∧ XOf T e2 = emptyB) ∧ (Pl.nd (T.data.toList.drop (xOf T.data.toList e2)) ≠ 0 → endOf T.data.toList e2 = xOf T.data.toList e2 + Pl.nd (T.data.toList.drop (xOf T.data.toList e2)) ∧ XOf T e2 = T.extract (e2 + 1) (xOf T.data.toList e2 + Pl.nd (T.data.toList.drop (xOf T.data.toList e2))))) := by
  unfold endOf XOf exOf
  constructor
  · intro h; rw [h]; exact ⟨rfl, rfl⟩
  · intro h
    rw [h]
    simp only [if_true]
    rw [ex_at]
    unfold xOf
    cases hs : sgnAt T.data.toList (e2 + 1) with
    | false =>
      simp only [Bool.false_eq_true, if_false]
      constructor
      · intro h0; rw [if_pos h0]; exact ⟨rfl, rfl⟩
      · intro h0; rw [if_neg h0]; exact ⟨rfl, rfl⟩
    | true =>
      simp only [if_true]
      constructor
      · intro h0; rw [if_pos h0]; exact ⟨rfl, rfl⟩
      · intro h0
        rw [if_neg h0]
        have e : e2 + 1 + (Pl.nd (T.data.toList.drop (e2 + 1 + 1)) + 1) = e2 + 2 + Pl.nd (T.data.toList.drop (e2 + 2)) := by
          have : e2 + 1 + 1 = e2 + 2 := rfl
          rw [this]; omega
        show e2 + 1 + (Pl.nd (T.data.toList.drop (e2 + 1 + 1)) + 1) = _ ∧ T.extract (e2 + 1) (e2 + 1 + (Pl.nd (T.data.toList.drop (e2 + 1 + 1)) + 1)) = _
        rw [e]
        exact ⟨rfl, rfl⟩
theorem x_le (T : ByteArray) (e2 : Nat) (h : e2 < T.size) : xOf T.data.toList e2 ≤ T.size := by
  unfold xOf
  cases hs : sgnAt T.data.toList (e2 + 1) with
  | false => simp; omega
  | true => have := sgn_lt T (e2 + 1) hs; simp; omega
theorem end_le (T : ByteArray) (e2 : Nat) (h : e2 ≤ T.size) : endOf T.data.toList e2 ≤ T.size := by
  have h1 := exAll T e2
  cases he : eAt T.data.toList e2 with
  | false => rw [(h1.1 he).1]; exact h
  | true =>
    have hlt := e_lt T e2 he
    have hx := x_le T e2 hlt
    have hc := cnt_le T _ hx
    by_cases h0 : Pl.nd (T.data.toList.drop (xOf T.data.toList e2)) = 0
    · rw [((h1.2 he).1 h0).1]; exact h
    · rw [((h1.2 he).2 h0).1]; exact hc

set_option maxRecDepth 100000 in
set_option maxHeartbeats 4000000 in
theorem scan_any (s : ByteArray) (w : World) (hs : s.size ≤ 1048576) :
    Calls Tryd.prog 15 #[.string s] w fun e w' => ∃ T a b c d t r fd, Hid (T.data.toList = trim s.data.toList) ∧ T.size ≤ 1048576 ∧ Hid ((a, b, c, d, t, r, fd) = partsOf T) ∧ e = .returned (.tuple #[.agg #[.string a, .string b, .string c, .string d, .string t, .string r], .bool fd]) ∧ Below w.heap.size w w' := by
  have HT := hide (fun W => trimLeft_T s W)
  go_enter Tryd.func15, Tryd.ntmps15
  go_wp2_with fail
  refine (unhide HT _).mono ?_
  rintro e w1 ⟨T, HTd, hTs, rfl, hb⟩
  have HS := hide (St.start (w := w) (W := w1) (by
    have hz : (w.alloc resObj).heap.size = w.heap.size + 1 := Array.size_push ..
    unfold resObj at hz ⊢
    rw [hz] at hb
    exact hb))
  clear hb HT
  have hT : T.size ≤ 1048576 := by omega
  clear hs hTs
  go_upto_region 3 with fail
  go_cut [24] from 9 to 23 (fun v wx => v = .bool (sgnAt T.data.toList 0) ∧ wx = w1)
  case first =>
    rcases sgn_cases T 0 with ⟨h, H⟩ | ⟨h, h1, H⟩ | ⟨h, h1, h2, H⟩ | ⟨h, h1, h2, H⟩
    all_goals
      go_wp2_with fail
      go_meet
      exact ⟨by rw [unhide H], rfl⟩
  case rest =>
    obtain ⟨rfl, rfl⟩ := hcut
    have HSG := hide (sg_at T.data.toList)
    generalize sgnAt T.data.toList 0 = sB at *
    go_upto_if 24 with fail
    go_cut [4] from 25 to 26 (fun v wx => v = .int .i64 (Pl.sg T.data.toList : Nat) ∧ wx = wc)
    case first =>
      cases sB
      all_goals
        go_wp2_with fail
        go_meet
        exact ⟨by rw [unhide HSG]; rfl, rfl⟩
    case rest =>
      obtain ⟨rfl, rfl⟩ := hcut
      have he0 : Pl.sg T.data.toList ≤ T.size := sg_le T
      have HC1 := hide (count_drop T (Pl.sg T.data.toList) hT)
      have hi1 := cnt_le T (Pl.sg T.data.toList) he0
      clear HSG
      generalize hE0 : Pl.sg T.data.toList = e0 at *
      have HE0 := hide hE0
      clear hE0
      generalize hI1 : Pl.nd (T.data.toList.drop e0) = i1 at *
      have HI1 := hide hI1
      clear hI1
      have hS1 := ((unhide HS).set0 (T.extract 0 e0)).set1 (T.extract e0 (e0 + i1))
      obtain ⟨hbel, c0, c1, c2, c3, c4, c5, f0, f1, f2, f3, f4, f5⟩ := unhide HS
      go_wp2_with fail
      refine (unhide HC1 _).mono ?_
      rintro e w2 ⟨rfl, rfl⟩
      clear HC1 HS
      go_upto_region 8 with fail
      clear c0 c1 c2 c3 c4 c5 f0 f1 f2 f3 f4 f5 hbel
      obtain ⟨e1, hE1⟩ : ∃ e1, e1 = e0 + i1 := ⟨_, rfl⟩
      rw [show (e0 : Int) + (i1 : Int) = (e1 : Int) by omega, ← hE1]
      rw [← hE1] at hS1 hi1
      generalize ((wc.setCell { block := w.heap.size, off := 0 } (Value.string (T.extract 0 e0))).setCell { block := w.heap.size, off := 1 } (Value.string (T.extract e0 e1))) = W1 at hS1 ⊢
      have HS1 := hide hS1
      clear hS1
      have HII := hide (piece_empty T e0 e1 i1 hE1 hi1)
      have HE1 := hide hE1
      have he01 : e0 ≤ e1 := by omega
      clear hE1
      go_cut [55] from 46 to 54 (fun v wx => v = .bool (dotAt T.data.toList e1) ∧ wx = W1)
      case first =>
        rcases dot_cases T e1 with ⟨h, H⟩ | ⟨h, h1, H⟩ | ⟨h, h1, H⟩
        all_goals
          go_wp2_with fail
          go_meet
          exact ⟨by rw [unhide H], rfl⟩
      case rest =>
        obtain ⟨rfl, rfl⟩ := hcut
        have HFA := hide (frAll T e1 i1)
        have HDT := hide (dot_lt T e1)
        generalize dotAt T.data.toList e1 = dB at *
        go_upto_if 55 with fail
        go_cut [4] from 56 to 82 (fun v wx => v = .int .i64 (e2Of T.data.toList i1 e1 : Nat) ∧ St w wx (T.extract 0 e0) (T.extract e0 e1) (FOf T e1) emptyB emptyB emptyB)
        case first =>
          cases dB
          · have HF1 := hide ((unhide HFA).1 rfl)
            clear HFA HDT
            go_wp2_with fail
            go_meet
            exact ⟨by rw [(unhide HF1).1], by rw [(unhide HF1).2]; exact unhide HS1⟩
          · have hlt := unhide HDT rfl
            have hfl := cnt_le T (e1 + 1) (by omega)
            have HC2 := hide (count_drop T (e1 + 1) hT)
            have HF2 := hide ((unhide HFA).2 rfl)
            clear HFA HDT
            generalize Pl.nd (T.data.toList.drop (e1 + 1)) = fr at *
            have HFE := hide (piece_empty T (e1 + 1) (e1 + 1 + fr) fr rfl hfl)
            have HS2 := hide ((unhide HS1).set2 (T.extract (e1 + 1) (e1 + 1 + fr)))
            obtain ⟨hbel, c0, c1, c2, c3, c4, c5, f0, f1, f2, f3, f4, f5⟩ := unhide HS1
            go_wp2_with fail
            refine (unhide HC2 _).mono ?_
            rintro e w2 ⟨rfl, rfl⟩
            clear HC2 HS1 hbel
            by_cases hi0 : i1 = 0
            · have hIe : (T.extract e0 e1).toList.isEmpty = true := by rw [unhide HII]; simpa using hi0
              by_cases hf0 : fr = 0
              · have hFe : (T.extract (e1 + 1) (e1 + 1 + fr)).toList.isEmpty = true := by rw [unhide HFE]; simpa using hf0
                have HQ := hide (And.intro hi0 hf0)
                clear hi0 hf0
                go_wp2_with fail
                go_meet
                exact ⟨by rw [(unhide HF2).1, if_pos (unhide HQ)], by rw [(unhide HF2).2]; exact unhide HS2⟩
              · have hFe : (T.extract (e1 + 1) (e1 + 1 + fr)).toList.isEmpty = false := by rw [unhide HFE]; simpa using hf0
                have HQ := hide (show ¬ (i1 = 0 ∧ fr = 0) from fun h => hf0 h.2)
                clear hi0 hf0
                go_wp2_with fail
                go_meet
                exact ⟨by rw [(unhide HF2).1, if_neg (unhide HQ)]; exact congrArg _ (by omega), by rw [(unhide HF2).2]; exact unhide HS2⟩
            · have hIe : (T.extract e0 e1).toList.isEmpty = false := by rw [unhide HII]; simpa using hi0
              have HQ := hide (show ¬ (i1 = 0 ∧ fr = 0) from fun h => hi0 h.1)
              clear hi0
              go_wp2_with fail
              go_meet
              exact ⟨by rw [(unhide HF2).1, if_neg (unhide HQ)]; exact congrArg _ (by omega), by rw [(unhide HF2).2]; exact unhide HS2⟩
        case rest =>
          obtain ⟨rfl, hS3⟩ := hcut
          have HS3 := hide hS3
          have HFE := hide (FOf_empty T e1)
          have he2 := e2_le T i1 e1 hi1
          have HP : Hid (partsOf T = partsAt T e0 i1 e1 (e2Of T.data.toList i1 e1)) := by
            refine hide ?_
            unfold partsOf
            rw [unhide HE0, unhide HI1, ← unhide HE1]
          clear hS3 HS1 HFA HDT
          generalize e2Of T.data.toList i1 e1 = e2 at *
          by_cases hnf : i1 = 0 ∧ frOf T.data.toList e1 = 0
          · have hIe : (T.extract e0 e1).toList.isEmpty = true := by rw [unhide HII]; simpa using hnf.1
            have hFe : (FOf T e1).toList.isEmpty = true := by rw [unhide HFE]; simpa using hnf.2
            have HP2 : Hid (partsOf T = (emptyB, emptyB, emptyB, emptyB, emptyB, emptyB, false)) := by
              refine hide ?_
              rw [unhide HP]; unfold partsAt; rw [if_pos hnf]
            clear hnf HP HII HFE
            obtain ⟨hbel, c0, c1, c2, c3, c4, c5, f0, f1, f2, f3, f4, f5⟩ := unhide HS3
            go_wp2_with fail
            have hS4 := ((((((unhide HS3).set0 { data := #[] }).set1 { data := #[] }).set2 { data := #[] }).set3 { data := #[] }).set4 { data := #[] }).set5 { data := #[] }
            clear c0 c1 c2 c3 c4 c5 f0 f1 f2 f3 f4 f5 hbel
            generalize ((((((wc.setCell { block := w.heap.size, off := 0 } (Value.string { data := #[] })).setCell { block := w.heap.size, off := 1 } (Value.string { data := #[] })).setCell { block := w.heap.size, off := 2 } (Value.string { data := #[] })).setCell { block := w.heap.size, off := 3 } (Value.string { data := #[] })).setCell { block := w.heap.size, off := 4 } (Value.string { data := #[] })).setCell { block := w.heap.size, off := 5 } (Value.string { data := #[] })) = W4 at hS4 ⊢
            obtain ⟨hbel, c0, c1, c2, c3, c4, c5, f0, f1, f2, f3, f4, f5⟩ := hS4
            exact bodyPost_ret (v := .tuple #[.agg #[.string { data := #[] }, .string { data := #[] }, .string { data := #[] }, .string { data := #[] }, .string { data := #[] }, .string { data := #[] }], .bool false]) (by simp [results, Tryd.results15, go_sem, c0, c1, c2, c3, c4, c5]) rfl ⟨T, _, _, _, _, _, _, _, HTd, hT, hide (unhide HP2).symm, rfl, hbel⟩
          · have HP2 : Hid (partsOf T = (T.extract 0 e0, T.extract e0 e1, FOf T e1, XOf T e2, T.extract 0 (endOf T.data.toList e2), T.extract (endOf T.data.toList e2) T.size, true)) := by
              refine hide ?_
              rw [unhide HP]; unfold partsAt; rw [if_neg hnf]
            have hcase : ((T.extract e0 e1).toList.isEmpty = true ∧ (FOf T e1).toList.isEmpty = false) ∨ (T.extract e0 e1).toList.isEmpty = false := by
              rw [unhide HII, unhide HFE]
              by_cases h : i1 = 0
              · left; exact ⟨by simpa using h, by simpa using fun h2 => hnf ⟨h, h2⟩⟩
              · right; simpa using h
            have HCASE := hide hcase
            clear hnf HP hcase HII HFE
            go_upto_region 12 with fail
            go_cut [90] from 83 to 89 (fun v wx => v = .bool false ∧ wx = wc)
            case first =>
              obtain ⟨hbel, c0, c1, c2, c3, c4, c5, f0, f1, f2, f3, f4, f5⟩ := unhide HS3
              rcases unhide HCASE with ⟨hIe, hFe⟩ | hIe
              all_goals
                go_wp2_with fail
                go_meet
                exact ⟨rfl, rfl⟩
            case rest =>
              obtain ⟨rfl, rfl⟩ := hcut
              clear HCASE
              go_upto_region 14 with fail
              go_cut [107] from 92 to 106 (fun v wx => v = .bool (eAt T.data.toList e2) ∧ wx = wc)
              case first =>
                rcases e_cases T e2 with ⟨h, H⟩ | ⟨h, h1, H⟩ | ⟨h, h1, h2, H⟩ | ⟨h, h1, h2, H⟩
                all_goals
                  go_wp2_with fail
                  go_meet
                  exact ⟨by rw [unhide H], rfl⟩
              case rest =>
                obtain ⟨rfl, rfl⟩ := hcut
                have HEA := hide (exAll T e2)
                have HEL := hide (e_lt T e2)
                generalize eAt T.data.toList e2 = eB at *
                go_upto_if 107 with fail
                go_cut [4, 5, 6] from 108 to 144 (fun v4 v5 v6 wx => v4 = .int .i64 (endOf T.data.toList e2 : Nat) ∧ St w wx (T.extract 0 e0) (T.extract e0 e1) (FOf T e1) (XOf T e2) emptyB emptyB)
                case first =>
                  cases eB
                  · have HX := hide ((unhide HEA).1 rfl)
                    clear HEA HEL
                    go_wp2_with fail
                    go_meet
                    exact ⟨by rw [(unhide HX).1], by rw [(unhide HX).2]; exact unhide HS3⟩
                  · have hlt := unhide HEL rfl
                    have HX := hide ((unhide HEA).2 rfl)
                    clear HEA HEL
                    go_upto_region 16 with fail
                    go_cut [125] from 110 to 124 (fun v wx => v = .bool (sgnAt T.data.toList (e2 + 1)) ∧ wx = wc)
                    case first =>
                      rcases sgn_cases T (e2 + 1) with ⟨h, H⟩ | ⟨h, h1, H⟩ | ⟨h, h1, h2, H⟩ | ⟨h, h1, h2, H⟩
                      all_goals
                        go_wp2_with fail
                        go_meet
                        exact ⟨by rw [unhide H], rfl⟩
                    case rest =>
                      obtain ⟨rfl, rfl⟩ := hcut
                      have HXO : Hid (xOf T.data.toList e2 = if sgnAt T.data.toList (e2 + 1) then e2 + 2 else e2 + 1) := hide rfl
                      have hxl := x_le T e2 hlt
                      generalize sgnAt T.data.toList (e2 + 1) = sB2 at *
                      go_upto_if 125 with fail
                      go_cut [5] from 126 to 127 (fun v wx => v = .int .i64 (xOf T.data.toList e2 : Nat) ∧ wx = wc)
                      case first =>
                        cases sB2
                        all_goals
                          go_wp2_with fail
                          go_meet
                          exact ⟨by rw [unhide HXO]; rfl, rfl⟩
                      case rest =>
                        obtain ⟨rfl, rfl⟩ := hcut
                        clear HXO
                        have hx2 : e2 + 1 ≤ xOf T.data.toList e2 := by unfold xOf; split <;> omega
                        generalize xOf T.data.toList e2 = x at *
                        have hdl := cnt_le T x hxl
                        have HC3 := hide (count_drop T x hT)
                        generalize Pl.nd (T.data.toList.drop x) = d at *
                        go_wp2_with fail
                        refine (unhide HC3 _).mono ?_
                        rintro e w2 ⟨rfl, rfl⟩
                        clear HC3
                        by_cases hd0 : d = 0
                        · have HY := hide ((unhide HX).1 hd0)
                          clear HX
                          go_wp2_with fail
                          go_meet
                          exact ⟨by rw [(unhide HY).1], by rw [(unhide HY).2]; exact unhide HS3⟩
                        · have HY := hide ((unhide HX).2 hd0)
                          have hd1 : 0 < d := by omega
                          clear HX hd0
                          have HS4 := hide ((unhide HS3).set3 (T.extract (e2 + 1) (x + d)))
                          obtain ⟨hbel, c0, c1, c2, c3, c4, c5, f0, f1, f2, f3, f4, f5⟩ := unhide HS3
                          go_wp2_with fail
                          go_meet
                          exact ⟨by rw [(unhide HY).1]; exact congrArg _ (by omega), by rw [(unhide HY).2]; exact unhide HS4⟩
                case rest =>
                  obtain ⟨rfl, hS5⟩ := hcut
                  have hel := end_le T e2 he2
                  clear HEA HEL HS3
                  generalize endOf T.data.toList e2 = E at *
                  have HS6 := hide ((hS5.set4 (T.extract 0 E)).set5 (T.extract E T.size))
                  obtain ⟨hbel, c0, c1, c2, c3, c4, c5, f0, f1, f2, f3, f4, f5⟩ := hS5
                  go_wp2_with fail
                  go_region_with (fail)
                  go_wp2_with fail
                  clear c0 c1 c2 c3 c4 c5 f0 f1 f2 f3 f4 f5 hbel
                  have hS7 := ((((((unhide HS6).set0 (T.extract 0 e0)).set1 (T.extract e0 e1)).set2 (FOf T e1)).set3 (XOf T e2)).set4 (T.extract 0 E)).set5 (T.extract E T.size)
                  clear HS6
                  generalize ((((((((wc.setCell { block := w.heap.size, off := 4 } (Value.string (T.extract 0 E))).setCell { block := w.heap.size, off := 5 } (Value.string (T.extract E T.size))).setCell { block := w.heap.size, off := 0 } (Value.string (T.extract 0 e0))).setCell { block := w.heap.size, off := 1 } (Value.string (T.extract e0 e1))).setCell { block := w.heap.size, off := 2 } (Value.string (FOf T e1))).setCell { block := w.heap.size, off := 3 } (Value.string (XOf T e2))).setCell { block := w.heap.size, off := 4 } (Value.string (T.extract 0 E))).setCell { block := w.heap.size, off := 5 } (Value.string (T.extract E T.size))) = W7 at hS7 ⊢
                  obtain ⟨hbel, c0, c1, c2, c3, c4, c5, f0, f1, f2, f3, f4, f5⟩ := hS7
                  exact bodyPost_ret (v := .tuple #[.agg #[.string (T.extract 0 e0), .string (T.extract e0 e1), .string (FOf T e1), .string (XOf T e2), .string (T.extract 0 E), .string (T.extract E T.size)], .bool true]) (by simp [results, Tryd.results15, go_sem, c0, c1, c2, c3, c4, c5]) rfl ⟨T, _, _, _, _, _, _, _, HTd, hT, hide (unhide HP2).symm, rfl, hbel.drew⟩

set_option maxRecDepth 100000 in
set_option maxHeartbeats 1000000 in
theorem zzScan_any (s : ByteArray) (w : World) (hs : s.size ≤ 1048576) :
    Calls Tryd.prog 8 #[.string s] w fun e w' => ∃ T a b c d t r fd, Hid (T.data.toList = trim s.data.toList) ∧ T.size ≤ 1048576 ∧ Hid ((a, b, c, d, t, r, fd) = partsOf T) ∧ e = .returned (.tuple #[.string a, .string b, .string c, .string d, .string t, .string r, .bool fd]) ∧ Below w.heap.size w w' := by
  have H := hide (scan_any s w hs)
  clear hs
  go_enter Tryd.func8, Tryd.ntmps8
  go_wp2_with fail
  refine (unhide H).mono ?_
  rintro e w1 ⟨T, a, b, c, d, t, r, fd, h1, h2, h3, rfl, hb⟩
  have HB := hide hb
  clear H hb
  go_wp2_with fail
  go_quiet (fail)
  go_wp2_with fail
  exact bodyPost_ret (v := .tuple #[.string a, .string b, .string c, .string d, .string t, .string r, .bool fd]) (by simp [results, Tryd.results8, go_sem]) rfl ⟨T, a, b, c, d, t, r, fd, h1, h2, h3, rfl, below_drewN ((unhide HB).alloc (unhide HB).size _) _⟩
end Go.Proofs.Qxb6606071aDoor
