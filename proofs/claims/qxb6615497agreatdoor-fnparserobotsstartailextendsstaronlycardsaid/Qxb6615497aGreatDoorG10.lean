import Derived.Test.Qxb6615497aGreatDoorG9
import Derived.Test.Qxb6615497aGreatDoorD11
import Derived.Test.Qxb6615497aGreatDoorF6
import Derived.Test.Qxb6615497aGreatDoorShelf
import Derived.Shelf.Unicode.DecodeAny
/- strings.EqualFold at an ASCII text and any other. -/
namespace Go.Proofs.Qxb6615497aGreatDoor
open Go Go.RowKit

def asciiPair (a b : Nat) : Bool := decide (65 ≤ min a b) && decide (min a b ≤ 90) && (max a b == min a b + 32)
def ring (a tr : Nat) : Nat → Nat → Nat
  | 0, r => r
  | g + 1, r => if r ≠ a ∧ r < tr then ring a tr g (sF r) else r
def okPair (a tr : Nat) : Bool := if tr = a then true else if tr < 128 then asciiPair a tr else ring a tr 2 (sF a) == tr
def efU : List UInt8 → ByteArray → Bool
  | [], tt => (tt.size : Int) == 0
  | a :: r, tt => if tt.size = 0 then false else if okPair a.toNat (Utf8.decode tt 0).1 then efU r (tt.extract (Utf8.decode tt 0).2 tt.size) else false
def efA (s t : ByteArray) : Nat → Nat → Bool
  | 0, _ => (s.size : Int) == (t.size : Int)
  | f + 1, i => if i < s.size ∧ i < t.size then
      (if 128 ≤ (t.get! i).toNat then efU (s.data.toList.drop i) (t.extract i t.size)
       else if (t.get! i).toNat = (s.get! i).toNat then efA s t f (i + 1)
       else if asciiPair (s.get! i).toNat (t.get! i).toNat then efA s t f (i + 1) else false)
    else (s.size : Int) == (t.size : Int)
def foldE (s t : ByteArray) : Bool := efA s t s.size 0

theorem wp_scope_one'' {P : Program} {a : Act} {w : World} {Q : Exit → Act → World → Prop} {c r : Code} (l : Nat) (hf : findLabel c l = some r)
    (first : ∀ J, Hid (jumpsTo P r Q J) → c.wp P (Exit.jump l J Q) a w) : (Code.scope c).wp P Q a w := by
  refine wp_scope_jumps l (fun a w => r.wp P (Exit.noGoto Q) a w) (fun _ _ => 0) hf (first _ (hide fun _ _ h => h)) ?_
  intro a w h
  refine Code.wp_mono ?_ h
  intro e a w hq
  cases e <;> first | exact hq | exact hq.elim

theorem decode_low (s : ByteArray) (pos : Nat) (h : pos < s.size) (ha : (s[pos]'h).toNat < 128) : Utf8.decode s pos = ((s[pos]'h).toNat, 1) := by
  rw [Lib.decode_at, get_bang s pos h]
  unfold Lib.decodeN
  rw [if_pos ha]

theorem or8 (a b : UInt8) (h : a.toNat < 128) : (128 ≤ bits .or .u8 (a.toNat : Int) (b.toNat : Int)) = (128 ≤ b.toNat) := by
  have all : ∀ (x : Fin 128) (y : Fin 256), decide (128 ≤ bits .or .u8 ((x.val : Nat) : Int) ((y.val : Nat) : Int)) = decide (128 ≤ y.val) := by decide +kernel
  have := all ⟨a.toNat, h⟩ ⟨b.toNat, UInt8.toNat_lt b⟩
  exact decide_eq_decide.1 this |> propext

end Go.Proofs.Qxb6615497aGreatDoor
