import Derived.Test.Qxb6615497aGreatDoorE11
import Derived.Test.Qxb6615497aGreatDoorE12
import Derived.Test.Qxb6615497aGreatDoorF3
import Derived.Test.Qxb6615497aGreatDoorF6
import Derived.Test.Qxb6615497aGreatDoorS3
/- parseCrawlDelay at every value. -/
namespace Go.Proofs.Qxb6615497aGreatDoor
open Go Go.RowKit

set_option maxHeartbeats 1000000 in
set_option maxRecDepth 100000 in
theorem cut_none (v : ByteArray) (h : Lib.indexByte v.data.toList 46 = -1) (w : World) :
    Calls Tryz.prog 67 #[.string v, .string ⟨#[46]⟩] w fun e w' => e = .returned (.tuple #[.string v, .string ⟨#[]⟩, .bool false]) ∧ ∃ q, w' = w.drewN q := by
  have HI := hide (Tryz.Index_dot v 46 w)
  rw [h] at HI
  go_enter Tryz.func67, Tryz.ntmps67
  go_wp2_with (go_at_call 99; refine (unhide HI).mono ?_; rintro e w' ⟨rfl, hw⟩; obtain rfl := hw.symm)
  go_ret3
  exact ⟨rfl, 0, rfl⟩

set_option maxHeartbeats 1000000 in
set_option maxRecDepth 100000 in
theorem cut_some (v : ByteArray) (i : Nat) (h : Lib.indexByte v.data.toList 46 = i) (hi : i < v.size) (hv : v.size ≤ 1048576) (w : World) :
    Calls Tryz.prog 67 #[.string v, .string ⟨#[46]⟩] w fun e w' => e = .returned (.tuple #[.string (v.extract 0 i), .string (v.extract (i + 1) v.size), .bool true]) ∧ ∃ q, w' = w.drewN q := by
  have HI := hide (Tryz.Index_dot v 46 w)
  rw [h] at HI
  have h0 : (0 : Int) ≤ (i : Int) := by omega
  have hz : (i : Int) ≤ (v.size : Int) := by omega
  have hz1 : (i : Int) + 1 ≤ (v.size : Int) := by omega
  go_enter Tryz.func67, Tryz.ntmps67
  go_wp2_with (go_at_call 99; refine (unhide HI).mono ?_; rintro e w' ⟨rfl, hw⟩; obtain rfl := hw.symm)
  go_quiet (fail)
  go_wp2
  go_ret3
  exact ⟨rfl, _, rfl⟩

theorem cut_in (v : ByteArray) (hv : v.size ≤ 1048576) (w : World) :
    Calls Tryz.prog 67 #[.string v, .string ⟨#[46]⟩] w fun e w' => (∃ b, e = .returned (.tuple #[.string (wholeOf v), .string (fracOf v), .bool b])) ∧ ∃ q, w' = w.drewN q := by
  cases hp : pointAt v with
  | none =>
    refine (cut_none v (point_none hp).1 w).mono ?_
    rintro e w' ⟨rfl, q⟩
    refine ⟨⟨false, ?_⟩, q⟩
    unfold wholeOf fracOf; rw [hp]
  | some i =>
    obtain ⟨h1, h2, _⟩ := point_some hp
    refine (cut_some v i h1 h2 hv w).mono ?_
    rintro e w' ⟨rfl, q⟩
    refine ⟨⟨true, ?_⟩, q⟩
    unfold wholeOf fracOf; rw [hp]

set_option maxHeartbeats 1000000 in
theorem cut_out (v : ByteArray) (hv : v.size ≤ 1048576) (w : World) :
    Calls Tryz.prog 39 #[.string v, .string ⟨#[46]⟩] w fun e w' => (∃ b, e = .returned (.tuple #[.string (wholeOf v), .string (fracOf v), .bool b])) ∧ ∃ q, w' = w.drewN q := by
  have H := hide (cut_in v hv w)
  generalize wholeOf v = a at *
  generalize fracOf v = b at *
  go_enter Tryz.func39, Tryz.ntmps39
  go_wp2_with (go_at_call 67; refine (unhide H).mono ?_; rintro e w' ⟨⟨c, rfl⟩, q, rfl⟩)
  go_ret3
  exact ⟨⟨_, rfl⟩, q, rfl⟩

/-- is it a day or more? -/
def geDay (f : Nat) : Bool := FloatKind.f64.format.order f dayW == some .gt || FloatKind.f64.format.order f dayW == some .eq
def nanosOf (f : Nat) : Int := (floatToIntVal .f64 (roundW (mulW f nanoW)).toNat .i64).getD 0
/-- parseCrawlDelay's answer. -/
def crawlF (v : ByteArray) : Int × Bool :=
  if (wholeOf v ++ fracOf v).toList = [] then (0, false)
  else if digB (wholeOf v) = false then (0, false)
  else if digB (fracOf v) = false then (0, false)
  else if geDay (atofF v).1 then (86400000000000, true)
  else (nanosOf (atofF v).1, true)

theorem sizes (v : ByteArray) : (wholeOf v).size ≤ v.size ∧ (fracOf v).size ≤ v.size := by
  cases hp : pointAt v with
  | none =>
    unfold wholeOf fracOf
    rw [hp]
    exact ⟨Nat.le_refl _, Nat.zero_le _⟩
  | some i =>
    obtain ⟨h1, h2, _⟩ := point_some hp
    unfold wholeOf fracOf
    rw [hp]
    exact ⟨by show (v.extract 0 i).size ≤ v.size; rw [size_ext v 0 i (by omega) (by omega)]; omega, by show (v.extract (i + 1) v.size).size ≤ v.size; rw [size_ext v (i + 1) v.size (by omega) (by omega)]; omega⟩

set_option maxHeartbeats 2000000 in
set_option maxRecDepth 100000 in
theorem crawl_any (v : ByteArray) (hv : v.size ≤ 1048576) (w : World) (hT : FTabs w) (hR : RangeVar w) :
    Calls Tryz.prog 25 #[.string v] w fun e w' => e = .returned (.tuple #[.int .i64 (crawlF v).1, .bool (crawlF v).2]) ∧ Below w.heap.size w w' := by
  have HC := hide (cut_out v hv w)
  have HA := hide allDigits_any
  have hz := sizes v
  have hsz : ¬ (9223372036854775807 < (wholeOf v).size + (fracOf v).size) := by omega
  have HN := hide (fun h0 h1 h2 => numText_of (v := v) hv h0 h1 h2)
  have hB0 := Below.refl w.heap.size w
  unfold crawlF
  generalize wholeOf v = a at *
  generalize fracOf v = b at *
  clear hz
  by_cases c0 : (a ++ b).toList = []
  · rw [if_pos c0]
    clear hB0 HN
    go_enter Tryz.func25, Tryz.ntmps25
    go_wp2_with (go_at_call 39; refine (unhide HC).mono ?_; rintro e w' ⟨⟨c, rfl⟩, q, rfl⟩)
    go_ret2
    exact ⟨rfl, belowDrewQ (Below.refl _ _) _⟩
  · rw [if_neg c0]
    have c0e : (a ++ b).toList.isEmpty = false := List.isEmpty_eq_false_iff.2 c0
    have HN2 := hide (fun h1 h2 => unhide HN c0 h1 h2)
    obtain ⟨D, hD⟩ : ∃ D, D = digB := ⟨_, rfl⟩
    have HAg : Hid (∀ s w, Calls Tryz.prog 40 #[.string s] w fun e w' => e = .returned (.bool (D s)) ∧ Below w.heap.size w w') := by rw [hD]; exact allDigits_any
    rw [← hD] at HN2 ⊢
    clear hB0 HN HA hD
    cases c1 : D a
    · rw [if_pos rfl]
      go_enter Tryz.func25, Tryz.ntmps25
      go_wp2_with (first | (go_at_call 39; refine (unhide HC).mono ?_; rintro e w' ⟨⟨c, rfl⟩, q, rfl⟩) | (go_at_call 40; first | (have hq := unhide HB1; clear hq; refine (unhide HAg _ _).mono ?_; rintro e w2 ⟨rfl, hb⟩; have HB2 := hide ((unhide HB1).trans (hb.mono (unhide HB1).size)); clear hb) | (refine (unhide HAg _ _).mono ?_; rintro e w1 ⟨rfl, hb⟩; have HB1 := hide ((belowDrewQ (Below.refl w.heap.size w) q).trans hb); clear hb)))
      go_ret2
      exact ⟨rfl, unhide HB1⟩
    · rw [if_neg (by decide)]
      cases c2 : D b
      · rw [if_pos rfl]
        go_enter Tryz.func25, Tryz.ntmps25
        go_wp2_with (first | (go_at_call 39; refine (unhide HC).mono ?_; rintro e w' ⟨⟨c, rfl⟩, q, rfl⟩) | (go_at_call 40; first | (have hq := unhide HB1; clear hq; refine (unhide HAg _ _).mono ?_; rintro e w2 ⟨rfl, hb⟩; have HB2 := hide ((unhide HB1).trans (hb.mono (unhide HB1).size)); clear hb) | (refine (unhide HAg _ _).mono ?_; rintro e w1 ⟨rfl, hb⟩; have HB1 := hide ((belowDrewQ (Below.refl w.heap.size w) q).trans hb); clear hb)))
        go_ret2
        exact ⟨rfl, unhide HB2⟩
      · rw [if_neg (by decide)]
        have hN := unhide HN2 c1 c2
        have hle := atofF_le v hN
        have h60 := hT.big
        have HP := hide (fun w' (hb : Below w.heap.size w w') => parseFloat_any v hN w' (hT.stay (Nat.le_refl _) hb) (by
          obtain ⟨te, pe, h⟩ := hR
          exact ⟨te, pe, (hb.cell (p := ⟨8, 0, none⟩) (by show 8 < _; omega)).trans h⟩))
        have HS := hide seconds_day
        clear HN2 hN h60
        generalize (atofF v).1 = f at *
        cases d1 : (FloatKind.f64.format.order f dayW == some .gt)
        · cases d2 : (FloatKind.f64.format.order f dayW == some .eq)
          · have hlt := below_day f hle d1 d2
            have hm := nano_bound f hlt
            have hrd := roundW_le _ hm
            obtain ⟨n, hn⟩ := int_of _ hrd
            have HRo := hide (round_calls (mulW f nanoW) hm)
            have hmr := mulW_run f nanoW hle (by decide) (by decide)
            have hcv : ∀ w, (convert 73 24 (.float .f64 (roundW (mulW f nanoW)).toNat)).run Tryz.prog w = .ok (.int .i64 n) w := fun w => run_convert_float_int w 73 24 .f64 .i64 _ n (by kernel_rfl) Tryz.underlying24 hn
            rw [show geDay f = false by unfold geDay; rw [d1, d2]; rfl, if_neg (by decide), show nanosOf f = n by unfold nanosOf; rw [hn]; rfl]
            clear hlt hm hrd hn hle
            generalize (roundW (mulW f nanoW)).toNat = R at *
            generalize mulW f nanoW = M at *
            go_enter Tryz.func25, Tryz.ntmps25
            go_wp2_with (first | (go_at_call 39; refine (unhide HC).mono ?_; rintro e w' ⟨⟨c, rfl⟩, q, rfl⟩) | (go_at_call 40; first | (have hq := unhide HB1; clear hq; refine (unhide HAg _ _).mono ?_; rintro e w2 ⟨rfl, hb⟩; have HB2 := hide ((unhide HB1).trans (hb.mono (unhide HB1).size)); clear hb) | (refine (unhide HAg _ _).mono ?_; rintro e w1 ⟨rfl, hb⟩; have HB1 := hide ((belowDrewQ (Below.refl w.heap.size w) q).trans hb); clear hb)) | (go_at_call 41; refine (unhide HP _ (unhide HB2)).mono ?_; rintro e w3 ⟨⟨x, rfl⟩, hb⟩; have HB3 := hide ((unhide HB2).trans (hb.mono (unhide HB2).size)); clear hb) | (go_at_call 42; refine (unhide HS _).mono ?_; rintro e w4 ⟨rfl, hw⟩; obtain rfl := hw.symm) | (go_at_call 43; refine (unhide HRo _).mono ?_; rintro e w4 ⟨rfl, hw⟩; obtain rfl := hw.symm))
            go_ret2
            exact ⟨rfl, unhide HB3⟩
          · rw [show geDay f = true by unfold geDay; rw [d1, d2]; rfl, if_pos rfl]
            clear hle
            go_enter Tryz.func25, Tryz.ntmps25
            go_wp2_with (first | (go_at_call 39; refine (unhide HC).mono ?_; rintro e w' ⟨⟨c, rfl⟩, q, rfl⟩) | (go_at_call 40; first | (have hq := unhide HB1; clear hq; refine (unhide HAg _ _).mono ?_; rintro e w2 ⟨rfl, hb⟩; have HB2 := hide ((unhide HB1).trans (hb.mono (unhide HB1).size)); clear hb) | (refine (unhide HAg _ _).mono ?_; rintro e w1 ⟨rfl, hb⟩; have HB1 := hide ((belowDrewQ (Below.refl w.heap.size w) q).trans hb); clear hb)) | (go_at_call 41; refine (unhide HP _ (unhide HB2)).mono ?_; rintro e w3 ⟨⟨x, rfl⟩, hb⟩; have HB3 := hide ((unhide HB2).trans (hb.mono (unhide HB2).size)); clear hb) | (go_at_call 42; refine (unhide HS _).mono ?_; rintro e w4 ⟨rfl, hw⟩; obtain rfl := hw.symm))
            go_ret2
            exact ⟨rfl, unhide HB3⟩
        · rw [show geDay f = true by unfold geDay; rw [d1]; rfl, if_pos rfl]
          clear hle
          go_enter Tryz.func25, Tryz.ntmps25
          go_wp2_with (first | (go_at_call 39; refine (unhide HC).mono ?_; rintro e w' ⟨⟨c, rfl⟩, q, rfl⟩) | (go_at_call 40; first | (have hq := unhide HB1; clear hq; refine (unhide HAg _ _).mono ?_; rintro e w2 ⟨rfl, hb⟩; have HB2 := hide ((unhide HB1).trans (hb.mono (unhide HB1).size)); clear hb) | (refine (unhide HAg _ _).mono ?_; rintro e w1 ⟨rfl, hb⟩; have HB1 := hide ((belowDrewQ (Below.refl w.heap.size w) q).trans hb); clear hb)) | (go_at_call 41; refine (unhide HP _ (unhide HB2)).mono ?_; rintro e w3 ⟨⟨x, rfl⟩, hb⟩; have HB3 := hide ((unhide HB2).trans (hb.mono (unhide HB2).size)); clear hb) | (go_at_call 42; refine (unhide HS _).mono ?_; rintro e w4 ⟨rfl, hw⟩; obtain rfl := hw.symm))
          go_ret2
          exact ⟨rfl, unhide HB3⟩
end Go.Proofs.Qxb6615497aGreatDoor
