import Derived.Test.Qxb6605421aDoorW1
namespace Go.Proofs.Qxb6605421aDoor
open Go.RowKit Go.Maps

set_option maxRecDepth 100000 in
theorem zzListed (s x : ByteArray) (b : Bool) (w : World) (h : Calls Tryd.prog 19 #[.string s] w fun e w' => e = .returned (.tuple #[.agg #[.string x, .bool b], .bool true]) ∧ Below w.heap.size w w') :
    Calls Tryd.prog 15 #[.string s] w fun e w' => e = .returned (.tuple #[.string x, .bool b, .bool true]) ∧ Below w.heap.size w w' := by
  have H := hide h
  clear h
  go_enter Tryd.func15, Tryd.ntmps15
  go_wp2_with fail
  refine (unhide H).mono ?_
  rintro e w1 ⟨rfl, hb⟩
  have HB := hide hb
  clear H hb
  go_wp2_with fail
  go_quiet (fail)
  go_wp2_with fail
  go_ret3
  exact ⟨rfl, below_drewN ((unhide HB).alloc (unhide HB).size _) _⟩

def rq (p : ByteArray) : ByteArray := { data := #[63, 32] } ++ p
def rqs (p : ByteArray) : ByteArray := { data := #[63, 32] } ++ p ++ { data := #[47] }
theorem rq_data (p : ByteArray) : (rq p).data.toList = 63 :: 32 :: p.data.toList := by unfold rq; simp
theorem rqs_data (p : ByteArray) : (rqs p).data.toList = 63 :: 32 :: (p ++ ({ data := #[47] } : ByteArray)).data.toList := by unfold rqs; simp
theorem size_list (x : ByteArray) : x.size = x.data.toList.length := by simp
theorem rq_size (p : ByteArray) (h : p.size ≤ 1048576) : (rq p).size ≤ 16777216 := by
  rw [size_list, rq_data]; rw [size_list] at h; simp only [List.length_cons]; omega
theorem rqs_size (p : ByteArray) (h : p.size ≤ 1048576) : (rqs p).size ≤ 16777216 := by
  rw [size_list, rqs_data]; rw [size_list] at h; simp at h ⊢; omega

theorem suffix_no (p : ByteArray) (h : p.data.toList.getLast? ≠ some 47) : (⟨(Lib.trimSuffix p.data.toList [47]).toArray⟩ : ByteArray) = p ∧ Lib.hasSuffix p.data.toList [47] = false := by
  have e : Lib.hasSuffix p.data.toList [47] = false := by
    unfold Lib.hasSuffix
    rw [Bool.eq_false_iff]
    intro hc
    rw [List.isSuffixOf_iff_suffix] at hc
    obtain ⟨t, ht⟩ := hc
    rw [← ht] at h
    simp at h
  refine ⟨?_, e⟩
  unfold Lib.trimSuffix
  rw [e]
  rfl
theorem suffix_yes (p : ByteArray) : (⟨(Lib.trimSuffix (p ++ ({ data := #[47] } : ByteArray)).data.toList [47]).toArray⟩ : ByteArray) = p ∧ Lib.hasSuffix (p ++ ({ data := #[47] } : ByteArray)).data.toList [47] = true := by
  have e : Lib.hasSuffix (p ++ ({ data := #[47] } : ByteArray)).data.toList [47] = true := by
    unfold Lib.hasSuffix
    rw [List.isSuffixOf_iff_suffix]
    exact ⟨p.data.toList, by simp⟩
  refine ⟨?_, e⟩
  unfold Lib.trimSuffix
  rw [e]
  apply ba_ext
  simp
end Go.Proofs.Qxb6605421aDoor
