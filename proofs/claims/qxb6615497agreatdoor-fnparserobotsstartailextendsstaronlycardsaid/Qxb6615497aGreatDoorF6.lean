import Derived.Test.Qxb6615497aGreatDoorF5
import Derived.Lib.IndexLaws
/- a Crawl-delay that is a number. -/
namespace Go.Proofs.Qxb6615497aGreatDoor
open Go Go.RowKit

theorem get_list (s : ByteArray) (i : Nat) (h : i < s.size) : s.data.toList[i]? = some (s[i]'h) := by
  have h' : i < s.data.toList.length := by simpa using h
  rw [List.getElem?_eq_getElem h']
  rfl

theorem size_ext (v : ByteArray) (a b : Nat) (h : a ≤ b) (hb : b ≤ v.size) : (v.extract a b).size = b - a := by
  simp [ByteArray.size_extract]; omega
theorem get_ext (v : ByteArray) (a b j : Nat) (hb : b ≤ v.size) (h : a + j < b) : (v.extract a b)[j]'(by rw [size_ext v a b (by omega) hb]; omega) = v[a + j]'(by omega) := by
  simp [ByteArray.getElem_extract]

theorem nil_nil : ((⟨#[]⟩ : ByteArray) ++ ⟨#[]⟩).toList = [] := by
  rw [Lib.toList_data]
  simp

/-- parts of a value about its first point. -/
def pointAt (v : ByteArray) : Option Nat := if Lib.indexByte v.data.toList 46 < 0 then none else some (Lib.indexByte v.data.toList 46).toNat
def wholeOf (v : ByteArray) : ByteArray := match pointAt v with | none => v | some i => v.extract 0 i
def fracOf (v : ByteArray) : ByteArray := match pointAt v with | none => ⟨#[]⟩ | some i => v.extract (i + 1) v.size

theorem point_none {v : ByteArray} (h : pointAt v = none) : Lib.indexByte v.data.toList 46 = -1 ∧ ∀ j (hj : j < v.size), (v[j]'hj).toNat ≠ 46 := by
  unfold pointAt at h
  split at h
  · rename_i h1
    have e : Lib.indexByte v.data.toList 46 = -1 := by have := Lib.indexByte_ge v.data.toList 46; omega
    refine ⟨e, fun j hj hx => Lib.indexByte_none e j ?_⟩
    rw [get_list v j hj]
    exact congrArg some (UInt8.toNat_inj.1 hx)
  · cases h
theorem point_some {v : ByteArray} {i : Nat} (h : pointAt v = some i) : Lib.indexByte v.data.toList 46 = i ∧ ∃ hi : i < v.size, (v[i]'hi).toNat = 46 ∧ ∀ j (hj : j < v.size), j < i → (v[j]'hj).toNat ≠ 46 := by
  unfold pointAt at h
  split at h
  · cases h
  · rename_i h1
    have e : Lib.indexByte v.data.toList 46 = (i : Int) := by injection h; omega
    obtain ⟨h2, h3⟩ := Lib.indexByte_some e
    have hi : i < v.size := by
      rcases Nat.lt_or_ge i v.size with h | h
      · exact h
      · rw [List.getElem?_eq_none (by simpa using h)] at h2; cases h2
    refine ⟨e, hi, ?_, fun j hj hlt hx => h3 j hlt ?_⟩
    · rw [get_list v i hi] at h2
      injection h2 with h2
      rw [h2]; rfl
    · rw [get_list v j hj]
      exact congrArg some (UInt8.toNat_inj.1 hx)

theorem numText_of {v : ByteArray} (hv : v.size ≤ 1048576) (h0 : (wholeOf v ++ fracOf v).toList ≠ []) (h1 : digB (wholeOf v) = true) (h2 : digB (fracOf v) = true) : NumText v := by
  cases hp : pointAt v with
  | none =>
    obtain ⟨_, hn⟩ := point_none hp
    have ew : wholeOf v = v := by unfold wholeOf; rw [hp]
    have ef : fracOf v = ⟨#[]⟩ := by unfold fracOf; rw [hp]
    rw [ew] at h1 h0
    rw [ef] at h0
    have hpos : 0 < v.size := by
      rcases Nat.eq_zero_or_pos v.size with h | h
      · exfalso
        apply h0
        have : v = ⟨#[]⟩ := by
          apply ByteArray.ext
          exact Array.eq_empty_of_size_eq_zero h
        rw [this]
        exact nil_nil
      · exact h
    exact ⟨fun i h => .inr (digB_all h1 i h), fun i j h h2 e _ => absurd e (hn i h), ⟨0, hpos, hn 0 hpos⟩, hv⟩
  | some i =>
    obtain ⟨_, hi, hx, hn⟩ := point_some hp
    have ew : wholeOf v = v.extract 0 i := by unfold wholeOf; rw [hp]
    have ef : fracOf v = v.extract (i + 1) v.size := by unfold fracOf; rw [hp]
    rw [ew] at h1 h0
    rw [ef] at h2 h0
    have d1 : ∀ j (hj : j < v.size), j < i → 48 ≤ (v[j]'hj).toNat ∧ (v[j]'hj).toNat ≤ 57 := by
      intro j hj hlt
      have := digB_all h1 j (by rw [size_ext v 0 i (by omega) (by omega)]; omega)
      rw [get_ext v 0 i j (by omega) (by omega)] at this
      simpa using this
    have d2 : ∀ j (hj : j < v.size), i < j → 48 ≤ (v[j]'hj).toNat ∧ (v[j]'hj).toNat ≤ 57 := by
      intro j hj hlt
      obtain ⟨k, rfl⟩ : ∃ k, j = i + 1 + k := ⟨j - (i + 1), by omega⟩
      have := digB_all h2 k (by rw [size_ext v (i + 1) v.size (by omega) (by omega)]; omega)
      rw [get_ext v (i + 1) v.size k (by omega) (by omega)] at this
      exact this
    have only : ∀ j (hj : j < v.size), (v[j]'hj).toNat = 46 → j = i := by
      intro j hj e
      rcases Nat.lt_trichotomy j i with h | h | h
      · have := d1 j hj h; omega
      · exact h
      · have := d2 j hj h; omega
    refine ⟨?_, ?_, ?_, hv⟩
    · intro j hj
      rcases Nat.lt_trichotomy j i with h | h | h
      · exact .inr (d1 j hj h)
      · subst h; exact .inl hx
      · exact .inr (d2 j hj h)
    · intro j k hj hk e1 e2
      rw [only j hj e1, only k hk e2]
    · by_cases hs : v.size = 1
      · exfalso
        apply h0
        have e0 : i = 0 := by omega
        subst e0
        have e1 : v.extract 0 0 = ⟨#[]⟩ := by
          apply ByteArray.ext
          apply Array.eq_empty_of_size_eq_zero
          exact (size_ext v 0 0 (by omega) (by omega)).trans (by omega)
        have e2 : v.extract (0 + 1) v.size = ⟨#[]⟩ := by
          apply ByteArray.ext
          apply Array.eq_empty_of_size_eq_zero
          exact (size_ext v (0 + 1) v.size (by omega) (by omega)).trans (by omega)
        rw [e1, e2]
        exact nil_nil
      · by_cases hi0 : i = 0
        · subst hi0
          exact ⟨1, by omega, by have := d2 1 (by omega) (by omega); omega⟩
        · exact ⟨0, by omega, by have := d1 0 (by omega) (by omega); omega⟩
end Go.Proofs.Qxb6615497aGreatDoor
