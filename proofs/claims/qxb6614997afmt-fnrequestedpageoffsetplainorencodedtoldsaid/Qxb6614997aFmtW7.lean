import Derived.Test.Qxb6614997aFmtW6
import Derived.Deep.QuietTactic
import Derived.BigQuiet
namespace Go.Proofs.Qxb6614997aFmt
open Go.RowKit Go.Shelf Go.Extern.Stop Go.Stop Go.Extern

set_option maxHeartbeats 1000000 in
theorem value_any (hU : UnescSaid) (q nm : ByteArray) (w : World) (hs : q.size ≤ 16777216) (hE : Env w) :
    Calls Tryf.prog 15 #[.string q, .string nm] w fun e w' =>
      (Pl.first nm.data.toList q.data.toList = none ∧ e = .returned (.tuple #[.string ⟨#[]⟩, .bool false, .nilIface]) ∧ Below w.heap.size w w') ∨
      (∃ p : ByteArray, ∃ v : List UInt8, Pl.first nm.data.toList q.data.toList = some p.data.toList ∧ Pl.pairVal p.data.toList = some v ∧ v.length ≤ q.size ∧ e = .returned (.tuple #[.string ⟨v.toArray⟩, .bool true, .nilIface]) ∧ Below w.heap.size w w') ∨
      (∃ p : ByteArray, ∃ t x, Pl.first nm.data.toList q.data.toList = some p.data.toList ∧ Pl.pairVal p.data.toList = none ∧ e = .returned (.tuple #[.string ⟨#[]⟩, .bool true, .iface t x]) ∧ Below w.heap.size w w') := by
  have HE := hide hE
  have HU := hide hU
  have HF := hide (first_any hU q nm w hs hE)
  clear hE hU
  go_enter Tryf.func15, Tryf.ntmps15
  go_wp2_with fail
  refine (unhide HF).mono ?_
  rintro e w1 (⟨p, hf, hp, rfl, hb⟩ | ⟨hf, rfl, hb⟩)
  · have HP := hide hf
    have HB := hide hb
    have HV := hide (pairValue_any (unhide HU) p w1 (by omega) ((unhide HE).below hb (Nat.le_refl _)))
    clear hf hb HF
    go_wp2_with fail
    refine (unhide HV).mono ?_
    rintro e w2 (⟨v, hv, hl, rfl, hb2⟩ | ⟨hv, t, x, rfl, hb2⟩)
    · have HW := hide hv
      have HB2 := hide ((unhide HB).trans (hb2.mono (unhide HB).size))
      clear hv hb2 HV HB
      go_wp2
      go_ret3
      exact .inr (.inl ⟨p, v, unhide HP, unhide HW, by omega, rfl, unhide HB2⟩)
    · have HW := hide hv
      have HB2 := hide ((unhide HB).trans (hb2.mono (unhide HB).size))
      clear hv hb2 HV HB
      go_wp2
      go_ret3
      exact .inr (.inr ⟨p, t, x, unhide HP, unhide HW, rfl, unhide HB2⟩)
  · have HP := hide hf
    have HB := hide hb
    clear hf hb HF
    go_wp2
    go_ret3
    exact .inl ⟨unhide HP, rfl, unhide HB⟩

/-- how countParam ends. -/
def CountEnds (r : Option (Option Nat)) (e : Ending) : Prop :=
  (r = none ∧ e = .returned (.tuple #[.int .i64 0, .bool false, .nilIface])) ∨
  (r = some none ∧ ∃ t x, e = .returned (.tuple #[.int .i64 0, .bool true, .iface t x])) ∨
  (∃ n : Nat, n ≤ 9223372036854775807 ∧ r = some (some n) ∧ e = .returned (.tuple #[.int .i64 n, .bool true, .nilIface]))

theorem param_none {nm q : List UInt8} (h : Pl.first nm q = none) : Pl.param nm q = none := by unfold Pl.param; rw [h]
theorem param_bad {nm q p : List UInt8} (h : Pl.first nm q = some p) (hv : Pl.pairVal p = none) : Pl.param nm q = some none := by unfold Pl.param; rw [h]; simp only [hv]
theorem param_val {nm q p v : List UInt8} (h : Pl.first nm q = some p) (hv : Pl.pairVal p = some v) : Pl.param nm q = some (Pl.count v) := by unfold Pl.param; rw [h]; simp only [hv]

set_option maxHeartbeats 1000000 in
theorem countParam_any (hU : UnescSaid) (F : Interp) (q nm : ByteArray) (w : World) (hF : F.answers w.tape) (hs : q.size ≤ 16777216) (hE : Env w) :
    Calls Tryf.prog 12 #[.string q, .string nm] w fun e w' => CountEnds (Pl.param nm.data.toList q.data.toList) e ∧ Below w.heap.size w w' := by
  have HF := hide hF
  have HV := hide (value_any hU q nm w hs hE)
  clear hE hU hF
  go_enter Tryf.func12, Tryf.ntmps12
  go_wp2_with fail
  refine (unhide HV).mono ?_
  rintro e w1 (⟨hf, rfl, hb⟩ | ⟨p, v, hf, hv, hl, rfl, hb⟩ | ⟨p, t, x, hf, hv, rfl, hb⟩)
  · have HP := hide (param_none hf)
    have HB := hide hb
    clear hf hb HV
    go_wp2
    go_ret3
    exact ⟨.inl ⟨unhide HP, rfl⟩, unhide HB⟩
  · have HP := hide (param_val hf hv)
    have HB := hide hb
    have hvs : (⟨v.toArray⟩ : ByteArray).size ≤ 16777216 := by
      show v.toArray.size ≤ _
      simp; omega
    have hF1 : F.answers w1.tape := by rw [hb.tape]; exact unhide HF
    cases hc : Pl.count v with
    | none =>
      have HR := hide (readCount_none F nm ⟨v.toArray⟩ w1 hF1 hvs (by simpa using hc))
      have HC := hide hc
      clear hf hv hb HV hc hF1
      go_wp2_with fail
      refine (unhide HR).mono ?_
      rintro e w2 ⟨a, rfl, hb2⟩
      have HB2 := hide ((unhide HB).trans (hb2.mono (unhide HB).size))
      clear hb2 HR HB
      go_wp2
      go_ret3
      exact ⟨.inr (.inl ⟨by rw [unhide HP, unhide HC], _, _, rfl⟩), unhide HB2⟩
    | some n =>
      have HR := hide (readCount_some nm ⟨v.toArray⟩ n w1 hvs (by simpa using hc))
      have HC := hide hc
      clear hf hv hb HV hc hF1
      go_wp2_with fail
      refine (unhide HR).mono ?_
      rintro e w2 ⟨rfl, rfl⟩
      clear HR
      go_wp2
      go_ret3
      exact ⟨.inr (.inr ⟨n, count_lt _ _ (unhide HC), by rw [unhide HP, unhide HC], rfl⟩), unhide HB⟩
  · have HP := hide (param_bad hf hv)
    have HB := hide hb
    have hF1 : F.answers w1.tape := by rw [hb.tape]; exact unhide HF
    have HR := hide (notAnInteger_any F nm w1 hF1)
    clear hf hv hb HV hF1
    go_wp2_with fail
    refine (unhide HR).mono ?_
    rintro e w2 ⟨a, rfl, hb2⟩
    have HB2 := hide ((unhide HB).trans (hb2.mono (unhide HB).size))
    clear hb2 HR HB
    go_wp2
    go_ret3
    exact ⟨.inr (.inl ⟨unhide HP, _, _, rfl⟩), unhide HB2⟩

/-- how requestedOffset ends. -/
def OffEnds (r : Option Int) (e : Ending) : Prop :=
  (r = none ∧ ∃ t x, e = .returned (.tuple #[.int .i64 0, .iface t x])) ∨
  (∃ n : Int, 0 ≤ n ∧ n ≤ 9223372036854775807 ∧ r = some n ∧ e = .returned (.tuple #[.int .i64 n, .nilIface]))

set_option maxHeartbeats 1000000 in
theorem requestedOffset_any (hU : UnescSaid) (F : Interp) (q : ByteArray) (w : World) (hF : F.answers w.tape) (hs : q.size ≤ 16777216) (hE : Env w) :
    Calls Tryf.prog 14 #[.string q] w fun e w' => OffEnds (Pl.offsetOf q.data.toList) e ∧ Below w.heap.size w w' := by
  have HV := hide (countParam_any hU F q ⟨#[111, 102, 102, 115, 101, 116]⟩ w hF hs hE)
  clear hE hU hF
  go_enter Tryf.func14, Tryf.ntmps14
  go_wp2_with fail
  refine (unhide HV).mono ?_
  rintro e w1 ⟨⟨hr, rfl⟩ | ⟨hr, t, x, rfl⟩ | ⟨n, hn, hr, rfl⟩, hb⟩
  · have HP := hide hr
    clear hr HV
    go_wp2
    go_ret2
    exact ⟨.inr ⟨0, by omega, by omega, by unfold Pl.offsetOf; rw [show Pl.param Pl.offsetN q.data.toList = none from unhide HP], rfl⟩, hb⟩
  · have HP := hide hr
    clear hr HV
    go_wp2
    go_ret2
    exact ⟨.inl ⟨by unfold Pl.offsetOf; rw [show Pl.param Pl.offsetN q.data.toList = some none from unhide HP], _, _, rfl⟩, hb⟩
  · have HP := hide hr
    clear hr HV
    go_wp2
    go_ret2
    exact ⟨.inr ⟨n, by omega, by omega, by unfold Pl.offsetOf; rw [show Pl.param Pl.offsetN q.data.toList = some (some n) from unhide HP], rfl⟩, hb⟩
end Go.Proofs.Qxb6614997aFmt
