import Derived.Lib.Split
import Derived.Lib.SplitLaws
import Derived.Lib.IndexMore
namespace Go.Proofs.Qxb6605421aDoor
open Go

/-- a fact kept out of the walk's sight. -/
def Hid (p : Prop) : Prop := p
theorem hide {p : Prop} (h : p) : Hid p := h
theorem unhide {p : Prop} (h : Hid p) : p := h

theorem ba_ext {x y : ByteArray} (h : x.data.toList = y.data.toList) : x = y := by
  cases x; cases y; congr 1; exact Array.toList_inj.1 h

def sp : ByteArray := ⟨#[32]⟩

theorem index_sp : ∀ (a r : List UInt8), (∀ c ∈ a, c ≠ 32) → Lib.index (a ++ 32 :: r) [32] = a.length
  | [], r, _ => by simp [Lib.index]
  | x :: a, r, h => by
    have ih := index_sp a r (fun c hc => h c (by simp [hc]))
    have hx : x ≠ 32 := h x (by simp)
    simp only [List.cons_append, Lib.index]
    rw [if_neg (by simpa using fun e => hx e.symm), ih, if_neg (by simp)]
    simp

theorem split_step (a s r : ByteArray) (k : Nat) (hs : s.data.toList = a.data.toList ++ 32 :: r.data.toList) (h : ∀ c ∈ a.data.toList, c ≠ 32) :
    Lib.splitB sp 0 (k + 1) s = a :: Lib.splitB sp 0 k r := by
  have hi : Lib.indexB s sp = (a.data.toList.length : Nat) := by
    unfold Lib.indexB
    rw [hs]
    exact index_sp _ _ h
  rw [Lib.splitB_hit sp 0 k s _ hi]
  congr 1
  · apply ba_ext
    simp [hs]
  · congr 1
    apply ba_ext
    have : s.size = (s.data.toList).length := by simp
    have e1 : sp.size = 1 := rfl
    rw [ByteArray.data_extract, Array.toList_extract, this, hs, e1]
    rw [List.extract_eq_take_drop]
    have e2 : (a.data.toList ++ 32 :: r.data.toList).drop (a.data.toList.length + 1) = r.data.toList := by
      rw [← List.drop_drop, List.drop_left]; rfl
    rw [e2, List.take_of_length_le]
    simp
    omega

theorem cut_sp (a r : List UInt8) (h : ∀ c ∈ a, c ≠ 32) : Lib.cut (a ++ 32 :: r) [32] = (a, r, true) := by
  unfold Lib.cut
  rw [index_sp a r h, if_pos (by omega)]
  simp
end Go.Proofs.Qxb6605421aDoor
