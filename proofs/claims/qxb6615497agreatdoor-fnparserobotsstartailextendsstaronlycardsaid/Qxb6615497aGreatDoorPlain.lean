import Derived.Lib.FieldsP
import Derived.Lib.SlTrimSet
import Derived.Lib.TrimU
import Derived.Lib.Strings
import Derived.Lib.IndexBytes
import Derived.Laws.RangeAny
/- The robots file of the law, without Go: its bytes, its lines, the fields of a line. -/
namespace Go.Proofs.Qxb6615497aGreatDoor
open Go

/-- CR or LF, as a predicate on runes. -/
def isEol (r : Nat) : Bool := r == 13 || r == 10

theorem spans_from (s : ByteArray) (h : ∀ i (hi : i < s.size), isEol (s[i]'hi).toNat = false) : ∀ (f pos a : Nat) (acc : List (Nat × Nat)), Lib.spansFromP isEol s f pos (some a) acc = (acc, some a)
  | 0, _, _, _ => rfl
  | f + 1, pos, a, acc => by
    unfold Lib.spansFromP
    by_cases hp : pos < s.size
    · rw [if_pos hp]
      have he : isEol (Utf8.decode s pos).1 = false := by
        by_cases hb : (s[pos]'hp).toNat < 128
        · rw [decode_ascii s pos hp hb]; exact h pos hp
        · have := (decode_high s pos hp (by omega)).1
          unfold isEol
          simp; omega
      rw [he]
      simp only [Bool.false_eq_true, if_false]
      exact spans_from s h f _ a acc
    · rw [if_neg hp]

theorem spans_one (s : ByteArray) (h0 : 0 < s.size) (h : ∀ i (hi : i < s.size), isEol (s[i]'hi).toNat = false) : Lib.spansOfP isEol s = [(0, s.size)] := by
  have e : Lib.spansFromP isEol s s.size 0 none [] = ([], some 0) := by
    obtain ⟨f, hf⟩ : ∃ f, s.size = f + 1 := ⟨s.size - 1, by omega⟩
    rw [hf]
    unfold Lib.spansFromP
    rw [if_pos h0]
    have he : isEol (Utf8.decode s 0).1 = false := by
      by_cases hb : (s[0]'h0).toNat < 128
      · rw [decode_ascii s 0 h0 hb]; exact h 0 h0
      · have := (decode_high s 0 h0 (by omega)).1
        unfold isEol
        simp; omega
    rw [he]
    simp only [Bool.false_eq_true, if_false]
    exact spans_from s h f _ 0 []
  unfold Lib.spansOfP
  rw [e]
  rfl

/-- the bytes of string(r). -/
def enc (r : Int) : List UInt8 := (Utf8.encode r).data.toList

theorem enc_ascii (r : Int) (h0 : 0 ≤ r) (h : r < 128) : enc r = [UInt8.ofNat r.toNat] := by
  have hv : Utf8.valid r = true := by unfold Utf8.valid; simp; omega
  unfold enc Utf8.encode
  rw [hv]
  simp only [if_true]
  rw [if_pos (by omega)]

theorem enc_high (r : Int) (h : r < 0 ∨ 128 ≤ r) : ∀ x ∈ enc r, 128 ≤ x.toNat := by
  unfold enc Utf8.encode
  obtain ⟨c, hc⟩ : ∃ c, (if Utf8.valid r then r.toNat else Utf8.runeError) = c := ⟨_, rfl⟩
  have hc128 : 128 ≤ c := by
    rw [← hc]
    split
    · rename_i hv
      unfold Utf8.valid at hv
      simp at hv
      omega
    · decide
  have hcm : c < 1114112 := by
    rw [← hc]
    split
    · rename_i hv
      unfold Utf8.valid at hv
      simp at hv
      omega
    · decide
  simp only [hc]
  rw [if_neg (by omega)]
  split
  · intro x hx
    simp at hx
    rcases hx with rfl | rfl <;> simp [UInt8.toNat_ofNat'] <;> omega
  · split
    · intro x hx
      simp at hx
      rcases hx with rfl | rfl | rfl <;> simp [UInt8.toNat_ofNat'] <;> omega
    · intro x hx
      simp at hx
      rcases hx with rfl | rfl | rfl | rfl <;> simp [UInt8.toNat_ofNat'] <;> omega

theorem enc_length (r : Int) : 1 ≤ (enc r).length ∧ (enc r).length ≤ 4 := by
  unfold enc Utf8.encode
  generalize (if Utf8.valid r then r.toNat else Utf8.runeError) = c
  simp only
  split
  · simp
  · split
    · simp
    · split <;> simp

/-- a byte of string(r) is r itself, or beyond ASCII. -/
theorem enc_mem (r : Int) : (0 ≤ r ∧ r < 128 ∧ enc r = [UInt8.ofNat r.toNat]) ∨ ∀ x ∈ enc r, 128 ≤ x.toNat := by
  by_cases h : 0 ≤ r ∧ r < 128
  · exact .inl ⟨h.1, h.2, enc_ascii r h.1 h.2⟩
  · exact .inr (enc_high r (by omega))

/-- a small byte that is in string(r) is r. -/
theorem enc_small (r : Int) (x : UInt8) (hx : x ∈ enc r) (hs : x.toNat < 128) : r = (x.toNat : Int) := by
  rcases enc_mem r with ⟨h0, h1, e⟩ | h
  · rw [e] at hx
    simp at hx
    subst hx
    simp [UInt8.toNat_ofNat']
    omega
  · have := h x hx; omega

def ua : List UInt8 := [85, 115, 101, 114, 45, 97, 103, 101, 110, 116, 58, 32, 42]
def dx : List UInt8 := [68, 105, 115, 97, 108, 108, 111, 119, 58, 32, 47, 120]

/-- the law's body. -/
def bodyL (r : Int) : List UInt8 := ua ++ enc r ++ dx
def bodyB (r : Int) : ByteArray := ⟨(bodyL r).toArray⟩

theorem body_size (r : Int) : (bodyB r).size = (bodyL r).length := by
  show (bodyL r).toArray.size = _
  simp
theorem body_len (r : Int) : 26 ≤ (bodyL r).length ∧ (bodyL r).length ≤ 29 := by
  have := enc_length r
  unfold bodyL
  simp [ua, dx]
  omega
theorem body_at (r : Int) (i : Nat) (hi : i < (bodyB r).size) : ((bodyB r)[i]'hi) ∈ bodyL r := by
  have e : (bodyL r)[i]? = some ((bodyB r)[i]'hi) := Lib.data_getElem? (bodyB r) i hi
  exact List.mem_of_getElem? e

theorem body_one (r : Int) (h : r ≠ 13) (h' : r ≠ 10) : Lib.spansOfP isEol (bodyB r) = [(0, (bodyB r).size)] := by
  refine spans_one _ (by rw [body_size]; have := body_len r; omega) fun i hi => ?_
  have hm := body_at r i hi
  generalize (bodyB r)[i]'hi = x at hm ⊢
  unfold bodyL at hm
  simp only [List.mem_append] at hm
  rcases hm with (hm | hm) | hm
  · simp [ua] at hm
    rcases hm with rfl | rfl | rfl | rfl | rfl | rfl | rfl | rfl | rfl | rfl | rfl | rfl | rfl <;> decide
  · by_cases hs : x.toNat < 128
    · have := enc_small r x hm hs
      unfold isEol
      simp; omega
    · unfold isEol
      simp; omega
  · simp [dx] at hm
    rcases hm with rfl | rfl | rfl | rfl | rfl | rfl | rfl | rfl | rfl | rfl | rfl | rfl <;> decide

theorem body_two (r : Int) (h : r = 13 ∨ r = 10) : Lib.spansOfP isEol (bodyB r) = [(0, 13), (14, 26)] := by
  rcases h with rfl | rfl <;> decide +kernel

def uaKey : List UInt8 := [85, 115, 101, 114, 45, 97, 103, 101, 110, 116]
def dxKey : List UInt8 := [68, 105, 115, 97, 108, 108, 111, 119]
theorem ua_parts : ua = uaKey ++ 58 :: [32, 42] := rfl
theorem dx_parts : dx = dxKey ++ 58 :: [32, 47, 120] := rfl

/-- with a number sign the comment begins behind the star. -/
theorem body_hash : bodyL 35 = ua ++ 35 :: dx := by decide +kernel
theorem body_no_hash (r : Int) (h : r ≠ 35) : ∀ x ∈ bodyL r, x ≠ 35 := by
  intro x hm
  unfold bodyL at hm
  simp only [List.mem_append] at hm
  rcases hm with (hm | hm) | hm
  · simp [ua] at hm
    rcases hm with rfl | rfl | rfl | rfl | rfl | rfl | rfl | rfl | rfl | rfl | rfl | rfl | rfl <;> decide
  · rintro rfl
    exact h (enc_small r 35 hm (by decide))
  · simp [dx] at hm
    rcases hm with rfl | rfl | rfl | rfl | rfl | rfl | rfl | rfl | rfl | rfl | rfl | rfl <;> decide
theorem body_parts (r : Int) : bodyL r = uaKey ++ 58 :: (32 :: 42 :: (enc r ++ dx)) := by
  unfold bodyL
  rw [ua_parts]
  simp

theorem trimRight_star (r : Int) : Lib.trimRightS (32 :: 42 :: (enc r ++ dx)) [32, 9] = 32 :: 42 :: (enc r ++ dx) := by
  unfold Lib.trimRightS
  have : (32 :: 42 :: (enc r ++ dx)).reverse = 120 :: (32 :: 42 :: (enc r ++ dx.take 11)).reverse := by
    simp [dx]
  rw [this, List.dropWhile_cons_of_neg (by decide), List.reverse_cons, List.reverse_reverse]
  simp [dx]
theorem trim_star (r : Int) : Lib.trimS (32 :: 42 :: (enc r ++ dx)) [32, 9] = 42 :: (enc r ++ dx) := by
  have e1 := trimRight_star r
  unfold Lib.trimS
  rw [e1]
  unfold Lib.trimLeftS
  rw [List.dropWhile_cons_of_pos (by decide), List.dropWhile_cons_of_neg (by decide)]

end Go.Proofs.Qxb6615497aGreatDoor
