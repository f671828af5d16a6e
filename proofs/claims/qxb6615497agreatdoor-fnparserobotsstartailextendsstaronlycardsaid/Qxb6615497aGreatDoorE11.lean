import Derived.Test.Qxb6615497aGreatDoorE10
import Derived.Test.Qxb6615497aGreatDoorS2
import Derived.Lib.IfaceEq
/- strconv.ParseFloat at digits with at most one point. -/
namespace Go.Proofs.Qxb6615497aGreatDoor
open Go Go.RowKit

set_option maxHeartbeats 1000000 in
set_option maxRecDepth 100000 in
theorem prefix_any (s : ByteArray) (hs : NumText s) (w : World) (hT : FTabs w) :
    Calls Tryz.prog 100 #[.string s, .int .i64 64] w fun r w' => r = .returned (.tuple #[.float .f64 (atofF s).1, .int .i64 s.size, errV (atofF s).2]) ∧ Below w.heap.size w w' := by
  have HA := hide (atof64_any s hs w hT)
  clear hs hT
  generalize atofF s = B at *
  obtain ⟨f, e⟩ := B
  go_enter Tryz.func100, Tryz.ntmps100
  go_wp2_with (go_at_call 121; refine (unhide HA).mono ?_; rintro e w' ⟨rfl, hb⟩; have HB := hide hb; clear hb)
  go_ret3
  exact ⟨rfl, unhide HB⟩

set_option maxHeartbeats 1000000 in
set_option maxRecDepth 100000 in
theorem parseInner_any (s : ByteArray) (hs : NumText s) (w : World) (hT : FTabs w) :
    Calls Tryz.prog 69 #[.string s, .int .i64 64] w fun r w' => r = .returned (.tuple #[.float .f64 (atofF s).1, errV (atofF s).2]) ∧ Below w.heap.size w w' := by
  have HA := hide (prefix_any s hs w hT)
  clear hs hT
  generalize atofF s = B at *
  obtain ⟨f, e⟩ := B
  go_enter Tryz.func69, Tryz.ntmps69
  go_wp2_with (go_at_call 100; refine (unhide HA).mono ?_; rintro e w' ⟨rfl, hb⟩; have HB := hide hb; clear hb)
  go_ret2
  exact ⟨rfl, unhide HB⟩

/-- the variable ErrRange holds an error. -/
def RangeVar (w : World) : Prop := ∃ te pe, w.cell? ⟨8, 0, none⟩ = some (.iface te pe)

theorem rangeError_any (fn s : ByteArray) (hs : s.size ≤ 1048576) (w : World) (hR : RangeVar w) :
    Calls Tryz.prog 102 #[.string fn, .string s] w fun e w' => (∃ N, e = .returned (.pointer (some ⟨N, 0, none⟩))) ∧ Below w.heap.size w w' := by
  obtain ⟨te, pe, h⟩ := hR
  refine (AnyPu.strconv_rangeError Tryz.laysR22 fn s (.iface te pe) w (by omega) h (.inr ⟨te, pe, rfl⟩)).mono ?_
  rintro e w' ⟨N, rfl, _, _, hb⟩
  exact ⟨⟨N, rfl⟩, hb⟩

set_option maxHeartbeats 1000000 in
set_option maxRecDepth 100000 in
theorem toError_any (fn s : ByteArray) (hs : s.size ≤ 1048576) (w : World) (hR : RangeVar w) :
    Calls Tryz.prog 70 #[.string fn, .string s, .int .i64 0, .int .i64 64, errV true] w fun e w' => (∃ v, e = .returned v) ∧ Below w.heap.size w w' := by
  have HA := hide (rangeError_any fn s hs w hR)
  unfold errV
  rw [if_pos rfl]
  clear hR
  have hq12 : ∀ W, (binOp .eql 75 (.iface 135 (.int .i64 1)) (.iface 135 (.int .i64 2))).run Tryz.prog W = .ok (.bool false) W := fun W => Lib.run_eql_iface_int W 1 2 Tryz.underlying75 (by kernel_rfl) Tryz.underlying135
  have hq11 : ∀ W, (binOp .eql 75 (.iface 135 (.int .i64 1)) (.iface 135 (.int .i64 1))).run Tryz.prog W = .ok (.bool true) W := fun W => Lib.run_eql_iface_int W 1 1 Tryz.underlying75 (by kernel_rfl) Tryz.underlying135
  go_enter Tryz.func70, Tryz.ntmps70
  go_wp2_with (go_at_call 102; refine (unhide HA).mono ?_; rintro e w' ⟨⟨N, rfl⟩, hb⟩; have HB := hide hb; clear hb)
  go_ret
  exact ⟨⟨_, rfl⟩, unhide HB⟩

set_option maxHeartbeats 1000000 in
set_option maxRecDepth 100000 in
theorem parseFloat_any (s : ByteArray) (hs : NumText s) (w : World) (hT : FTabs w) (hR : RangeVar w) :
    Calls Tryz.prog 41 #[.string s, .int .i64 64] w fun r w' => (∃ v, r = .returned (.tuple #[.float .f64 (atofF s).1, v])) ∧ Below w.heap.size w w' := by
  have HA := hide (parseInner_any s hs w hT)
  have HL := hs.len
  have h60 := hT.big
  have HE := hide (fun fn w' (hb : Below w.heap.size w w') => toError_any fn s HL w' (by
    obtain ⟨te, pe, h⟩ := hR
    exact ⟨te, pe, (hb.cell (p := ⟨8, 0, none⟩) (by show 8 < _; omega)).trans h⟩))
  clear hs hT hR HL h60
  generalize atofF s = B at *
  obtain ⟨f, e⟩ := B
  cases e
  · have e0 : errV false = .nilIface := rfl
    dsimp only at HA ⊢
    rw [e0] at HA
    go_enter Tryz.func41, Tryz.ntmps41
    go_wp2_with (go_at_call 69; refine (unhide HA).mono ?_; rintro e w' ⟨rfl, hb⟩; have HB := hide hb; clear hb)
    go_ret2
    exact ⟨⟨_, rfl⟩, unhide HB⟩
  · have e0 : errV true = .iface 135 (.int .i64 1) := rfl
    dsimp only at HA ⊢
    rw [e0] at HA HE
    go_enter Tryz.func41, Tryz.ntmps41
    go_wp2_with (first | (go_at_call 69; refine (unhide HA).mono ?_; rintro e w' ⟨rfl, hb⟩; have HB := hide hb; clear hb) | (go_at_call 70; refine (unhide HE _ _ (unhide HB)).mono ?_; rintro e w'' ⟨⟨v, rfl⟩, hb⟩; have HB2 := hide (hb.mono (unhide HB).size); clear hb))
    go_ret2
    exact ⟨⟨_, rfl⟩, (unhide HB).trans (unhide HB2)⟩
end Go.Proofs.Qxb6615497aGreatDoor
