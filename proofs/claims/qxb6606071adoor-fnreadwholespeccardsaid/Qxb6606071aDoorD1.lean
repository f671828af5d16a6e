import Derived.Test.Qxb6606071aDoorN0
import Derived.WalkKit
import Derived.Below
import Derived.Deep.QuietTactic
import Derived.Deep.LoopGhost
/- strconv's decimal: how it lies in memory; trim. -/
namespace Go.Proofs.Qxb6606071aDoor.Fl
open Go.RowKit

/-- a decimal at block a: its 800 bytes, nd, dp, neg, trunc. -/
structure DecAt (a : Nat) (D : Nat → Int) (nd : Nat) (dp : Int) (neg tr : Bool) (w : World) : Prop where
  dig : ∀ i, i < 800 → w.cell? ⟨a, i, none⟩ = some (.int .u8 (D i))
  fr : ∀ i, i < 804 → w.frozen? ⟨a, i, none⟩ = false
  nd : w.cell? ⟨a, 800, none⟩ = some (.int .i64 nd)
  dp : w.cell? ⟨a, 801, none⟩ = some (.int .i64 dp)
  neg : w.cell? ⟨a, 802, none⟩ = some (.bool neg)
  tr : w.cell? ⟨a, 803, none⟩ = some (.bool tr)

theorem cell_set_off (w : World) (a i j : Nat) (v : Value) (h : i ≠ j) : (w.setCell ⟨a, i, none⟩ v).cell? ⟨a, j, none⟩ = w.cell? ⟨a, j, none⟩ := by
  apply World.cell?_setCell_other
  intro e
  injection e with e1 e2
  exact h e2

theorem DecAt.setNd {a : Nat} {D : Nat → Int} {nd : Nat} {dp : Int} {neg tr : Bool} {w : World} (h : DecAt a D nd dp neg tr w) (n : Nat) : DecAt a D n dp neg tr (w.setCell ⟨a, 800, none⟩ (.int .i64 n)) where
  dig i hi := by rw [cell_set_off _ _ _ _ _ (by omega)]; exact h.dig i hi
  fr i hi := by rw [World.frozen?_setCell]; exact h.fr i hi
  nd := World.cell?_setCell_same' _ _ _ (by rw [h.nd]; rfl)
  dp := by rw [cell_set_off _ _ _ _ _ (by omega)]; exact h.dp
  neg := by rw [cell_set_off _ _ _ _ _ (by omega)]; exact h.neg
  tr := by rw [cell_set_off _ _ _ _ _ (by omega)]; exact h.tr
theorem DecAt.setDp {a : Nat} {D : Nat → Int} {nd : Nat} {dp : Int} {neg tr : Bool} {w : World} (h : DecAt a D nd dp neg tr w) (z : Int) : DecAt a D nd z neg tr (w.setCell ⟨a, 801, none⟩ (.int .i64 z)) where
  dig i hi := by rw [cell_set_off _ _ _ _ _ (by omega)]; exact h.dig i hi
  fr i hi := by rw [World.frozen?_setCell]; exact h.fr i hi
  nd := by rw [cell_set_off _ _ _ _ _ (by omega)]; exact h.nd
  dp := World.cell?_setCell_same' _ _ _ (by rw [h.dp]; rfl)
  neg := by rw [cell_set_off _ _ _ _ _ (by omega)]; exact h.neg
  tr := by rw [cell_set_off _ _ _ _ _ (by omega)]; exact h.tr
theorem DecAt.setNeg {a : Nat} {D : Nat → Int} {nd : Nat} {dp : Int} {neg tr : Bool} {w : World} (h : DecAt a D nd dp neg tr w) (z : Bool) : DecAt a D nd dp z tr (w.setCell ⟨a, 802, none⟩ (.bool z)) where
  dig i hi := by rw [cell_set_off _ _ _ _ _ (by omega)]; exact h.dig i hi
  fr i hi := by rw [World.frozen?_setCell]; exact h.fr i hi
  nd := by rw [cell_set_off _ _ _ _ _ (by omega)]; exact h.nd
  dp := by rw [cell_set_off _ _ _ _ _ (by omega)]; exact h.dp
  neg := World.cell?_setCell_same' _ _ _ (by rw [h.neg]; rfl)
  tr := by rw [cell_set_off _ _ _ _ _ (by omega)]; exact h.tr
theorem DecAt.setTr {a : Nat} {D : Nat → Int} {nd : Nat} {dp : Int} {neg tr : Bool} {w : World} (h : DecAt a D nd dp neg tr w) (z : Bool) : DecAt a D nd dp neg z (w.setCell ⟨a, 803, none⟩ (.bool z)) where
  dig i hi := by rw [cell_set_off _ _ _ _ _ (by omega)]; exact h.dig i hi
  fr i hi := by rw [World.frozen?_setCell]; exact h.fr i hi
  nd := by rw [cell_set_off _ _ _ _ _ (by omega)]; exact h.nd
  dp := by rw [cell_set_off _ _ _ _ _ (by omega)]; exact h.dp
  neg := by rw [cell_set_off _ _ _ _ _ (by omega)]; exact h.neg
  tr := World.cell?_setCell_same' _ _ _ (by rw [h.tr]; rfl)

/-- a byte laid. -/
def put (D : Nat → Int) (i : Nat) (v : Int) : Nat → Int := fun j => if j = i then v else D j
theorem DecAt.setDig {a : Nat} {D : Nat → Int} {nd : Nat} {dp : Int} {neg tr : Bool} {w : World} (h : DecAt a D nd dp neg tr w) (i : Nat) (hi : i < 800) (v : Int) : DecAt a (put D i v) nd dp neg tr (w.setCell ⟨a, i, none⟩ (.int .u8 v)) where
  dig j hj := by
    unfold put
    by_cases e : j = i
    · subst e
      rw [if_pos rfl]
      exact World.cell?_setCell_same' _ _ _ (by rw [h.dig j hj]; rfl)
    · rw [if_neg e, cell_set_off _ _ _ _ _ (fun h => e h.symm)]
      exact h.dig j hj
  fr j hj := by rw [World.frozen?_setCell]; exact h.fr j hj
  nd := by rw [cell_set_off _ _ _ _ _ (by omega)]; exact h.nd
  dp := by rw [cell_set_off _ _ _ _ _ (by omega)]; exact h.dp
  neg := by rw [cell_set_off _ _ _ _ _ (by omega)]; exact h.neg
  tr := by rw [cell_set_off _ _ _ _ _ (by omega)]; exact h.tr

theorem heap_drewN (w : World) : ∀ q, (w.drewN q).heap = w.heap
  | 0 => rfl
  | q + 1 => heap_drewN w q
theorem cell_heap {w w' : World} (e : w'.heap = w.heap) (p : Addr) : w'.cell? p = w.cell? p := by unfold World.cell?; rw [e]
theorem frozen_heap {w w' : World} (e : w'.heap = w.heap) (p : Addr) : w'.frozen? p = w.frozen? p := by unfold World.frozen?; rw [e]
theorem DecAt.of_heap {a : Nat} {D : Nat → Int} {nd : Nat} {dp : Int} {neg tr : Bool} {w w' : World} (h : DecAt a D nd dp neg tr w) (e : w'.heap = w.heap) : DecAt a D nd dp neg tr w' where
  dig i hi := (cell_heap e _).trans (h.dig i hi)
  fr i hi := (frozen_heap e _).trans (h.fr i hi)
  nd := (cell_heap e _).trans h.nd
  dp := (cell_heap e _).trans h.dp
  neg := (cell_heap e _).trans h.neg
  tr := (cell_heap e _).trans h.tr
theorem DecAt.drewN {a : Nat} {D : Nat → Int} {nd : Nat} {dp : Int} {neg tr : Bool} {w : World} (h : DecAt a D nd dp neg tr w) (q : Nat) : DecAt a D nd dp neg tr (w.drewN q) := h.of_heap (heap_drewN w q)
theorem belowDrewQ {n : Nat} {w w' : World} (h : Below n w w') : ∀ q, Below n w (w'.drewN q)
  | 0 => h
  | q + 1 => (belowDrewQ h q).drew

/-- trim: how many digits are left. -/
def trimN (D : Nat → Int) : Nat → Nat
  | 0 => 0
  | n + 1 => if D n = 48 then trimN D n else n + 1
def trimDp (D : Nat → Int) (nd : Nat) (dp : Int) : Int := if trimN D nd = 0 then 0 else dp

set_option maxHeartbeats 4000000 in
set_option maxRecDepth 100000 in
theorem trim_any (a : Nat) (D : Nat → Int) (nd : Nat) (dp : Int) (neg tr : Bool) (w : World) (h : DecAt a D nd dp neg tr w) (hnd : nd ≤ 800) :
    Calls Tryd.prog 92 #[.pointer (some ⟨a, 0, none⟩)] w fun e w' => e = .returned (.tuple #[]) ∧ DecAt a D (trimN D nd) (trimDp D nd dp) neg tr w' ∧ Below a w w' := by
  go_enter Tryd.func92, Tryd.ntmps92
  go_wp2
  go_loopg [] nd (fun gf wx => gf ≤ nd ∧ trimN D gf = trimN D nd ∧ Hid (DecAt a D gf dp neg tr wx ∧ Below a w wx))
  case atStart => exact ⟨Nat.le_refl _, rfl, h, Below.refl _ _⟩
  case round =>
    obtain ⟨hg, ht, HH⟩ := hrel
    cases gk with
    | zero =>
      have cn : wr.cell? ⟨a, 800, none⟩ = some (.int .i64 0) := (unhide HH).1.nd
      have f1 := (unhide HH).1.fr 801 (by omega)
      have c1 := (unhide HH).1.dp
      have h0 : trimN D nd = 0 := ht.symm
      go_wp2
      go_quiet (fail)
      go_wp2
      go_end0
      refine ⟨rfl, ?_, ?_⟩
      · unfold trimDp
        rw [h0, if_pos rfl]
        exact (((unhide HH).1.drewN _).setDp 0)
      · exact (belowDrewQ (unhide HH).2 _).setCell (p := ⟨a, 801, none⟩) (Nat.le_refl _) _
    | succ g =>
      have cn : wr.cell? ⟨a, 800, none⟩ = some (.int .i64 ((g : Int) + 1)) := (unhide HH).1.nd
      have cg := (unhide HH).1.dig g (by omega)
      have fn := (unhide HH).1.fr 800 (by omega)
      have hg0 : (0 : Int) < (g : Int) + 1 := by omega
      have hg8 : (g : Int) < 800 := by omega
      by_cases hd : D g = 48
      · rw [hd] at cg
        have ht' : trimN D g = trimN D nd := by rw [← ht]; unfold trimN; rw [if_pos hd]; cases g <;> rfl
        go_wp2
        go_quiet (fail)
        go_wp2
        go_roundg g
        case measure => omega
        case rel => exact ⟨by omega, ht', ((unhide HH).1.drewN _).setNd g, (belowDrewQ (unhide HH).2 _).setCell (p := ⟨a, 800, none⟩) (Nat.le_refl _) _⟩
      · have ht' : trimN D nd = g + 1 := by rw [← ht]; unfold trimN; rw [if_neg hd]
        have hdz : (D g == 48) = false := by simpa using hd
        have hne : ¬ ((g : Int) + 1 = 0) := by omega
        go_wp2
        go_quiet (fail)
        go_wp2
        go_end0
        refine ⟨rfl, ?_, belowDrewQ (unhide HH).2 _⟩
        unfold trimDp
        rw [ht', if_neg (by omega)]
        exact (unhide HH).1.drewN _
end Go.Proofs.Qxb6606071aDoor.Fl
