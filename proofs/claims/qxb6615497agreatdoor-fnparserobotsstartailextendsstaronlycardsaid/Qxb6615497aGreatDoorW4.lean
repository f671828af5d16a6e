import Derived.Test.Qxb6615497aGreatDoorW1
import Derived.WalkKit
import Derived.Deep.RegionWith
import Derived.Deep.QuietTactic
import Derived.Lib.SlBytesConst
namespace Go.Proofs.Qxb6615497aGreatDoor
open Go.RowKit

set_option maxHeartbeats 4000000 in
set_option maxRecDepth 100000 in
theorem robotsField_of (b o n c m : Nat) (z : Int) (w : World) (kb ko kn kc vb vo vn vc kb' ko' kn' kc' vb' vo' vn' vc' : Nat) (K K' V : ByteArray) (hnc : n ≤ c) (hz : (z = -1 ∧ m = n) ∨ (z = (m : Int) ∧ m ≤ n))
    (hI : Calls Tryz.prog 46 #[.slice (some ⟨b, o, none⟩) n c, .int .u8 35] w fun e w' => e = .returned (.int .i64 z) ∧ w' = w)
    (hC : Calls Tryz.prog 47 #[.slice (some ⟨b, o, none⟩) m c, .slice (some ⟨w.heap.size, 0, none⟩) 1 1] (w.alloc (.cells #[.int .u8 58] 5 (1, 2))) fun e w' => e = .returned (.tuple #[.slice (some ⟨kb, ko, none⟩) kn kc, .slice (some ⟨vb, vo, none⟩) vn vc, .bool true]) ∧ Below w.heap.size w w')
    (hT1 : ∀ W, Below w.heap.size w W → Calls Tryz.prog 49 #[.slice (some ⟨kb, ko, none⟩) kn kc, .string ⟨#[32, 9]⟩] W fun e W' => e = .returned (.slice (some ⟨kb', ko', none⟩) kn' kc') ∧ Below W.heap.size W W')
    (hT2 : ∀ W, Below w.heap.size w W → Calls Tryz.prog 49 #[.slice (some ⟨vb, vo, none⟩) vn vc, .string ⟨#[32, 9]⟩] W fun e W' => e = .returned (.slice (some ⟨vb', vo', none⟩) vn' vc') ∧ Below W.heap.size W W')
    (hL : ∀ W, Below w.heap.size w W → Calls Tryz.prog 48 #[.string K] W fun e W' => e = .returned (.string K') ∧ Below W.heap.size W W')
    (hv1 : ∀ W, Below w.heap.size w W → (convert 22 9 (.slice (some ⟨kb', ko', none⟩) kn' kc')).run Tryz.prog W = .ok (.string K) W)
    (hv2 : ∀ W, Below w.heap.size w W → (convert 22 9 (.slice (some ⟨vb', vo', none⟩) vn' vc')).run Tryz.prog W = .ok (.string V) W) :
    Calls Tryz.prog 28 #[.slice (some ⟨b, o, none⟩) n c] w fun e w' => e = .returned (.tuple #[.string K', .string V, .bool true]) ∧ Below w.heap.size w w' := by
  have HT1 := hide hT1
  have HT2 := hide hT2
  have HL := hide hL
  have HC := hide hC
  have HI := hide hI
  have HV1 := hide hv1
  have HV2 := hide hv2
  clear hT1 hT2 hL hC hI hv1 hv2
  have hcc := Lib.run_convert_bytes_const (P := Tryz.prog) w 22 5 #[.int .u8 58] 1 1 Tryz.underlying22 Tryz.underlying5
  rcases hz with ⟨rfl, rfl⟩ | ⟨rfl, hm⟩
  · go_enter Tryz.func28, Tryz.ntmps28
    go_wp2_with (first
      | (go_at_call 46; refine (unhide HI).mono ?_; rintro e w' ⟨rfl, hw⟩; obtain rfl := hw.symm)
      | (go_at_call 47; refine (unhide HC).mono ?_; rintro e w1 ⟨rfl, hb1⟩))
    go_region_with (first
      | (go_at_call 48; refine (unhide HL _ hb2).mono ?_; rintro e w3 ⟨rfl, hb3'⟩; have hb3 := hb2.trans (hb3'.mono hb2.size))
      | (go_at_call 49; first
          | (refine (unhide HT2 _ hb3).mono ?_; rintro e w4 ⟨rfl, hb4'⟩; have hb4 := hb3.trans (hb4'.mono hb3.size); have hx2 := unhide HV2 _ hb4)
          | (refine (unhide HT1 _ hb1.drew).mono ?_; rintro e w2 ⟨rfl, hb2'⟩; have hb2 := hb1.drew.trans (hb2'.mono hb1.drew.size); have hx1 := unhide HV1 _ hb2)))
    go_wp2
    go_ret3
    exact ⟨rfl, hb4⟩
  · have hm0 : (0 : Int) ≤ (m : Int) := by omega
    go_enter Tryz.func28, Tryz.ntmps28
    go_wp2_with (first
      | (go_at_call 46; refine (unhide HI).mono ?_; rintro e w' ⟨rfl, hw⟩; obtain rfl := hw.symm)
      | (go_at_call 47; refine (unhide HC).mono ?_; rintro e w1 ⟨rfl, hb1⟩))
    go_region_with (first
      | (go_at_call 48; refine (unhide HL _ hb2).mono ?_; rintro e w3 ⟨rfl, hb3'⟩; have hb3 := hb2.trans (hb3'.mono hb2.size))
      | (go_at_call 49; first
          | (refine (unhide HT2 _ hb3).mono ?_; rintro e w4 ⟨rfl, hb4'⟩; have hb4 := hb3.trans (hb4'.mono hb3.size); have hx2 := unhide HV2 _ hb4)
          | (refine (unhide HT1 _ hb1.drew).mono ?_; rintro e w2 ⟨rfl, hb2'⟩; have hb2 := hb1.drew.trans (hb2'.mono hb1.drew.size); have hx1 := unhide HV1 _ hb2)))
    go_wp2
    go_ret3
    exact ⟨rfl, hb4⟩
end Go.Proofs.Qxb6615497aGreatDoor
