import Derived.Test.Qxb6606071aDoorE10
import Derived.Test.Qxb6606071aDoorS5
/- strconv.ParseFloat at a number's text. -/
namespace Go.Proofs.Qxb6606071aDoor.Fl
open Go Go.RowKit

/-- what atof64 answers. -/
def AnsOf (s : ByteArray) (a m : Nat) (neg : Bool) (f : Nat) (ov : Bool) : Prop := ∃ p S, Plainly s a m p S ∧ f = (atofF neg (rfAll s a m).m p (rfAll s a m).tr S).1 ∧ ov = (atofF neg (rfAll s a m).m p (rfAll s a m).tr S).2

theorem atof64_any (s : ByteArray) (a m : Nat) (neg : Bool) (hs : NumText s a m neg) (w : World) (hT : FTabs w) :
    Calls Tryd.prog 42 #[.string s] w fun r w' => (∃ f ov, Hid (AnsOf s a m neg f ov) ∧ r = .returned (.tuple #[.float .f64 f, .int .i64 s.size, errV ov])) ∧ Below w.heap.size w w' :=
  atof64_core (AnsOf s a m neg) s a m neg hs w hT fun p S h => ⟨p, S, h, rfl, rfl⟩

set_option maxHeartbeats 1000000 in
set_option maxRecDepth 100000 in
theorem prefix_any (s : ByteArray) (a m : Nat) (neg : Bool) (hs : NumText s a m neg) (w : World) (hT : FTabs w) :
    Calls Tryd.prog 32 #[.string s, .int .i64 64] w fun r w' => (∃ f ov, Hid (AnsOf s a m neg f ov) ∧ r = .returned (.tuple #[.float .f64 f, .int .i64 s.size, errV ov])) ∧ Below w.heap.size w w' := by
  have HA := hide (atof64_any s a m neg hs w hT)
  clear hs hT
  generalize AnsOf s a m neg = An at *
  go_enter Tryd.func32, Tryd.ntmps32
  go_wp2_with (go_at_call 42; refine (unhide HA).mono ?_; rintro e w' ⟨⟨f, ov, hAn, rfl⟩, hb⟩; have HB := hide hb; clear hb)
  go_ret3
  exact ⟨⟨_, _, hAn, rfl⟩, unhide HB⟩

set_option maxHeartbeats 1000000 in
set_option maxRecDepth 100000 in
theorem parseInner_any (s : ByteArray) (a m : Nat) (neg : Bool) (hs : NumText s a m neg) (w : World) (hT : FTabs w) :
    Calls Tryd.prog 22 #[.string s, .int .i64 64] w fun r w' => (∃ f ov, Hid (AnsOf s a m neg f ov) ∧ r = .returned (.tuple #[.float .f64 f, errV ov])) ∧ Below w.heap.size w w' := by
  have HA := hide (prefix_any s a m neg hs w hT)
  clear hs hT
  generalize AnsOf s a m neg = An at *
  go_enter Tryd.func22, Tryd.ntmps22
  go_wp2_with (go_at_call 32; refine (unhide HA).mono ?_; rintro e w' ⟨⟨f, ov, hAn, rfl⟩, hb⟩; have HB := hide hb; clear hb)
  go_ret2
  exact ⟨⟨_, _, hAn, rfl⟩, unhide HB⟩

/-- the variable ErrRange holds an error. -/
def RangeVar (w : World) : Prop := ∃ te pe, w.cell? ⟨1, 0, none⟩ = some (.iface te pe)

theorem toError_any (fn s : ByteArray) (hs : s.size ≤ 1048576) (w : World) (hR : RangeVar w) :
    Calls Tryd.prog 21 #[.string fn, .string s, .int .i64 0, .int .i64 64, errV true] w fun e w' => (∃ v, e = .returned v) ∧ Below w.heap.size w w' := by
  obtain ⟨te, pe, h⟩ := hR
  refine (Any.strconv_toError_range (show LaysC.n245 Tryd.prog Tryd.lays174_ren from { Tryd.lays174 with }) fn s 0 64 (.iface te pe) w (by omega) h (.inr ⟨te, pe, rfl⟩)).mono ?_
  rintro e w' ⟨N, rfl, _, _, hb⟩
  exact ⟨⟨_, rfl⟩, hb⟩

set_option maxHeartbeats 1000000 in
set_option maxRecDepth 100000 in
theorem parseFloat_any (s : ByteArray) (a m : Nat) (neg : Bool) (hs : NumText s a m neg) (w : World) (hT : FTabs w) (hR : RangeVar w) :
    Calls Tryd.prog 17 #[.string s, .int .i64 64] w fun r w' => (∃ f ov v, Hid (AnsOf s a m neg f ov) ∧ r = .returned (.tuple #[.float .f64 f, v])) ∧ Below w.heap.size w w' := by
  have HA := hide (parseInner_any s a m neg hs w hT)
  have HL := hs.len
  have h60 := hT.big
  have HE := hide (fun fn w' (hb : Below w.heap.size w w') => toError_any fn s HL w' (by
    obtain ⟨te, pe, h⟩ := hR
    exact ⟨te, pe, (hb.cell (p := ⟨1, 0, none⟩) (by show 1 < _; omega)).trans h⟩))
  clear hs hT hR HL h60
  generalize AnsOf s a m neg = An at *
  have e0 : errV false = .nilIface := rfl
  have e1 : errV true = .iface 55 (.int .i64 1) := rfl
  rw [e1] at HE
  go_enter Tryd.func17, Tryd.ntmps17
  go_upto_region 2 with (go_at_call 22; refine (unhide HA).mono ?_; rintro e w' ⟨⟨f, ov, hAn, rfl⟩, hb⟩; have HB := hide hb; clear hb)
  cases ov
  · rw [e0]
    go_wp2
    go_ret2
    exact ⟨⟨_, _, _, hAn, rfl⟩, unhide HB⟩
  · rw [e1]
    go_wp2_with (go_at_call 21; refine (unhide HE _ _ (unhide HB)).mono ?_; rintro e w'' ⟨⟨v, rfl⟩, hb⟩; have HB2 := hide (hb.mono (unhide HB).size); clear hb)
    go_ret2
    exact ⟨⟨_, _, _, hAn, rfl⟩, (unhide HB).trans (unhide HB2)⟩
end Go.Proofs.Qxb6606071aDoor.Fl
