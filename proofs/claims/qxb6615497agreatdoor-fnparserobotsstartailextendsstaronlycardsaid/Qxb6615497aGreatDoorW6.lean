import Derived.Test.Qxb6615497aGreatDoorW1
import Derived.WalkKit
import Derived.Lib.Builder
import Derived.Lib.Strings
import Derived.Lib.IndexBytes
import Derived.Below
/- canonicalPath at a text of plain bytes. -/
namespace Go.Proofs.Qxb6615497aGreatDoor
open Go.RowKit

/-- what is asked of (*strings.Builder).WriteByte and String. -/
def WritesByte : Prop := ∀ (B b : Nat) (bs : List Value) (c : Int) (w : World), Lib.IsBuilder 99 5 B b bs w → bs.length + 1 ≤ 140737488355328 → B ≤ w.heap.size →
  Calls Tryz.prog 63 #[.pointer (some ⟨b, 0, none⟩), .int .u8 c] w fun e w' => e = .returned .nilIface ∧ (Lib.BuilderAt 99 5 B b (.pointer (some ⟨b, 0, none⟩)) (bs ++ [.int .u8 c]) w' ∧ Below B w w')
def ToldString : Prop := ∀ (B b : Nat) (l : List UInt8) (w : World), Lib.IsBuilder 99 5 B b (Lib.byteCells l) w → B ≤ w.heap.size →
  Calls Tryz.prog 66 #[.pointer (some ⟨b, 0, none⟩)] w fun e w' => e = .returned (.string ⟨l.toArray⟩) ∧ Below B w w'

/-- printable, no per cent sign. -/
def plainByte (x : UInt8) : Prop := 32 < x.toNat ∧ x.toNat < 127 ∧ x.toNat ≠ 37

theorem take_snoc (s : ByteArray) (k : Nat) (h : k < s.size) : s.data.toList.take (k + 1) = s.data.toList.take k ++ [s[k]'h] := by
  rw [List.take_add_one, Lib.data_getElem? s k h]
  rfl

set_option maxHeartbeats 4000000 in
set_option maxRecDepth 100000 in
theorem canonicalPath_plain (hWB : WritesByte) (hTS : ToldString) (s : ByteArray) (w : World) (hs : s.size ≤ 16777216) (hp : ∀ i (hi : i < s.size), plainByte (s[i]'hi)) :
    Calls Tryz.prog 38 #[.string s] w fun e w' => e = .returned (.string s) ∧ Below w.heap.size w w' := by
  have HP := hide hp
  have HWB := hide hWB
  have HTS := hide hTS
  clear hp hWB hTS
  go_enter Tryz.func38, Tryz.ntmps38
  go_wp2_with fail
  go_loopw [4] (fun i wr => ∃ k : Nat, k ≤ s.size ∧ i = .int .i64 k ∧ Hid (Lib.IsBuilder 99 5 w.heap.size w.heap.size (Lib.byteCells (s.data.toList.take k)) wr ∧ Below w.heap.size w wr))
    (fun i _ => match i with | .int _ z => s.size - z.toNat | _ => 0)
  case atStart => exact ⟨0, Nat.zero_le _, rfl, Lib.fresh_isBuilder 99 5 w, (Below.refl _ w).alloc (Nat.le_refl _) _⟩
  case round =>
    obtain ⟨k, hk, rfl, HB⟩ := hrel
    by_cases hlt : k < s.size
    · have hkz : (k : Int) < (s.size : Int) := by omega
      have hb := unhide HP k hlt
      obtain ⟨x, hx⟩ : ∃ x : UInt8, s[k]'hlt = x := ⟨_, rfl⟩
      rw [hx] at hb
      obtain ⟨h1, h2, h3⟩ := hb
      have hx1 : ¬ ((x.toNat : Int) ≤ 32) := by omega
      have hx2 : ¬ ((127 : Int) ≤ (x.toNat : Int)) := by omega
      have hx3 : ¬ ((x.toNat : Int) = 37) := by omega
      have hw := unhide HWB w.heap.size w.heap.size _ (x.toNat : Int) wr (unhide HB).1 (by simp [Lib.byteCells]; omega) (unhide HB).2.size
      have HW := hide hw
      have HX := hide hx
      clear hw h1 h2 h3
      go_wp2_with (go_at_call 63; refine (unhide HW).mono ?_; rintro e w2 ⟨rfl, hB2, hb2⟩)
      refine ⟨⟨k + 1, by omega, by simp, ?_⟩, ?_⟩
      · refine ⟨Or.inr ?_, (unhide HB).2.trans hb2⟩
        rw [take_snoc s k hlt, unhide HX, Lib.byteCells_append]
        exact hB2
      · show s.size - ((k : Int) + 1).toNat < s.size - (k : Int).toNat
        omega
    · obtain rfl : k = s.size := by omega
      have hkz : ¬ ((s.size : Int) < (s.size : Int)) := by omega
      have ht : s.data.toList.take s.size = s.data.toList := List.take_of_length_le (by rw [← Lib.size_eq]; exact Nat.le_refl _)
      rw [ht] at HB
      have hst := unhide HTS w.heap.size w.heap.size s.data.toList wr (unhide HB).1 (unhide HB).2.size
      have HS := hide hst
      clear hst
      go_wp2_with (go_at_call 66; refine (unhide HS).mono ?_; rintro e w2 ⟨rfl, hb2⟩)
      go_ret
      exact ⟨rfl, (unhide HB).2.trans hb2⟩
end Go.Proofs.Qxb6615497aGreatDoor
