import Derived.Test.Qxb6606071aDoorB8
import Derived.Test.Qxb6606071aDoorS5
/- numtext.Read. -/
namespace Go.Proofs.Qxb6606071aDoor.Fl
open Go Go.RowKit

theorem toList_data (x : ByteArray) : x.toList = x.data.toList := ByteArray.toList_eq x

/-- ParseInt at a sign and digits: a number, or an error. -/
theorem parseInt_any (a b : ByteArray) (ha : a.data.toList = [] ∨ a.data.toList = [43] ∨ a.data.toList = [45]) (hl : b.data.toList ≠ []) (hd : allDig b.data.toList) (hlen : a.size + b.size ≤ 1048577) (w : World) (hR : RangeVar w) :
    Calls Tryd.prog 16 #[.string (a ++ b), .int .i64 10, .int .i64 64] w fun e w' => (((intV (a.data.toList == [45]) (dv b.data.toList 0)).2 = true ∧ e = .returned (.tuple #[.int .i64 (intV (a.data.toList == [45]) (dv b.data.toList 0)).1, .nilIface])) ∨ ((intV (a.data.toList == [45]) (dv b.data.toList 0)).2 = false ∧ ∃ v t p, e = .returned (.tuple #[.int .i64 v, .iface t p]))) ∧ Below w.heap.size w w' := by
  have hp := parseInt_at a.data.toList b.data.toList ha hl hd
  have hsz : (a ++ b).size ≤ 1048577 := by rw [ByteArray.size_append]; exact hlen
  have hdl : (a ++ b).data.toList = a.data.toList ++ b.data.toList := by rw [ByteArray.data_append, Array.toList_append]
  rw [← hdl] at hp
  cases hv : (intV (a.data.toList == [45]) (dv b.data.toList 0)).2 with
  | true =>
    rw [hv, if_pos rfl] at hp
    refine (Any.strconv_ParseInt_10_at64_ok Tryd.lays174 (a ++ b) (by omega) _ hp w).mono ?_
    rintro e w' ⟨rfl, hw⟩
    refine ⟨.inl ⟨rfl, rfl⟩, ?_⟩
    rcases hw with rfl | ⟨t, rfl⟩
    · exact Below.refl _ _
    · exact Lib.bytesWorld_below _ _ _
  | false =>
    rw [hv, if_neg (by decide)] at hp
    obtain ⟨te, pe, h⟩ := hR
    refine (Any.strconv_ParseInt_10_at64_range Tryd.lays174 (a ++ b) (by omega) hp (.iface te pe) w h (.inr ⟨te, pe, rfl⟩)).mono ?_
    rintro e w' ⟨N, rfl, _, _, hb⟩
    exact ⟨.inr ⟨rfl, _, _, _, rfl⟩, hb⟩

/-- what Read answers. -/
def ReadOk (a b c d : ByteArray) (fd : Bool) (n : Int) (f : Nat) (whole : Bool) : Prop :=
  (fd = false → n = 0 ∧ f = 0 ∧ whole = true) ∧
  (fd = true → ¬ (c.toList.isEmpty = true ∧ d.toList.isEmpty = true) → whole = false ∧ n = 0) ∧
  (fd = true → c.toList.isEmpty = true → d.toList.isEmpty = true →
    ((intV (a.data.toList == [45]) (dv b.data.toList 0)).2 = true → whole = true ∧ n = (intV (a.data.toList == [45]) (dv b.data.toList 0)).1 ∧ f = 0) ∧
    ((intV (a.data.toList == [45]) (dv b.data.toList 0)).2 = false → whole = false ∧ n = 0 ∧ ∃ x, f = wd (a.data.toList == [45]) x ∧ bigW ≤ x ∧ x ≤ infW))

theorem intV_big {neg : Bool} {n : Nat} (h : (intV neg n).2 = false) : 9223372036854775808 ≤ n := by
  unfold intV at h
  cases neg
  · rw [if_neg (by decide)] at h
    split at h
    · assumption
    · cases h
  · rw [if_pos rfl] at h
    split at h
    · omega
    · cases h

set_option maxHeartbeats 2000000 in
set_option maxRecDepth 100000 in
theorem read_any (s : ByteArray) (w : World) (hs : s.size ≤ 1048576) (hT : FTabs w) (hR : RangeVar w) :
    Calls Tryd.prog 11 #[.string s] w fun e w' => (∃ T a b c d t r fd n f whole, Hid (T.data.toList = trim s.data.toList) ∧ Hid ((a, b, c, d, t, r, fd) = partsOf T) ∧ Hid (ReadOk a b c d fd n f whole) ∧ e = .returned (.tuple #[.int .i64 n, .float .f64 f, .bool whole])) ∧ Below w.heap.size w w' := by
  have HScan := hide (scan_any s w hs)
  have HT := hide hT
  have HR := hide hR
  have h16 := hT.big
  clear hT hR
  go_enter Tryd.func11, Tryd.ntmps11
  go_wp2_with fail
  refine (unhide HScan).mono ?_
  rintro e w1 ⟨T, a, b, c, d, t, r, fd, h1, hTs, h3, rfl, hb1⟩
  have HB1 := hide hb1
  have H1 : Hid (T.data.toList = trim s.data.toList) := h1
  have H3 : Hid ((a, b, c, d, t, r, fd) = partsOf T) := h3
  clear HScan hb1 h1 h3
  cases fd with
  | false =>
    go_wp2_with fail
    go_ret3
    exact ⟨⟨T, a, b, c, d, t, r, false, 0, 0, true, H1, H3, ⟨fun _ => ⟨rfl, rfl, rfl⟩, (fun h => by cases h), (fun h => by cases h)⟩, rfl⟩, (unhide HB1).alloc (unhide HB1).size _⟩
  | true =>
    obtain ⟨k1, k2, k3, e0, m, k4, k5⟩ := parts_known T a b c d t r hTs (unhide H3)
    have HPF : Hid (∀ W, Below w.heap.size w W → Calls Tryd.prog 17 #[.string t, .int .i64 64] W fun r w' => (∃ f ov v, Hid (AnsOf t e0 m (a.data.toList == [45]) f ov) ∧ r = .returned (.tuple #[.float .f64 f, v])) ∧ Below W.heap.size W w') := fun W hW =>
      parseFloat_any t e0 m (a.data.toList == [45]) k4 W ((unhide HT).stay (Nat.le_refl _) hW) (by
        obtain ⟨te, pe, h⟩ := unhide HR
        exact ⟨te, pe, (hW.cell (p := ⟨1, 0, none⟩) (by show 1 < _; omega)).trans h⟩)
    have HPI : Hid (b.data.toList ≠ [] → ∀ W, Below w.heap.size w W → Calls Tryd.prog 16 #[.string (a ++ b), .int .i64 10, .int .i64 64] W fun e w' => (((intV (a.data.toList == [45]) (dv b.data.toList 0)).2 = true ∧ e = .returned (.tuple #[.int .i64 (intV (a.data.toList == [45]) (dv b.data.toList 0)).1, .nilIface])) ∨ ((intV (a.data.toList == [45]) (dv b.data.toList 0)).2 = false ∧ ∃ v t p, e = .returned (.tuple #[.int .i64 v, .iface t p]))) ∧ Below W.heap.size W w') := fun hl W hW =>
      parseInt_any a b k1 hl k3 k2.1 W (by
        obtain ⟨te, pe, h⟩ := unhide HR
        exact ⟨te, pe, (hW.cell (p := ⟨1, 0, none⟩) (by show 1 < _; omega)).trans h⟩)
    have hab : ¬ (9223372036854775807 < a.size + b.size) := by have := k2.1; omega
    have HK4 := hide k4
    have HK5 := hide k5
    clear k1 k2 k3 k4 k5 HT HR h16
    go_upto_region 4 with fail
    have q0 : (w1.alloc (.cells #[.string a, .string b, .string c, .string d, .string t, .string r] 35)).cell? ⟨w1.heap.size, 0, none⟩ = some (.string a) := by rw [World.cell?_alloc_mark]; rfl
    have q1 : (w1.alloc (.cells #[.string a, .string b, .string c, .string d, .string t, .string r] 35)).cell? ⟨w1.heap.size, 1, none⟩ = some (.string b) := by rw [World.cell?_alloc_mark]; rfl
    have q2 : (w1.alloc (.cells #[.string a, .string b, .string c, .string d, .string t, .string r] 35)).cell? ⟨w1.heap.size, 2, none⟩ = some (.string c) := by rw [World.cell?_alloc_mark]; rfl
    have q3 : (w1.alloc (.cells #[.string a, .string b, .string c, .string d, .string t, .string r] 35)).cell? ⟨w1.heap.size, 3, none⟩ = some (.string d) := by rw [World.cell?_alloc_mark]; rfl
    have q4 : (w1.alloc (.cells #[.string a, .string b, .string c, .string d, .string t, .string r] 35)).cell? ⟨w1.heap.size, 4, none⟩ = some (.string t) := by rw [World.cell?_alloc_mark]; rfl
    have HB : Below w.heap.size w (w1.alloc (.cells #[.string a, .string b, .string c, .string d, .string t, .string r] 35)) := (unhide HB1).alloc (unhide HB1).size _
    clear HB1
    generalize w1.alloc (.cells #[.string a, .string b, .string c, .string d, .string t, .string r] 35) = W at *
    generalize w1.heap.size = A at *
    cases hc : c.toList.isEmpty
    · have HOk : Hid (∀ f, ReadOk a b c d true 0 f false) := fun f => ⟨(fun h => by cases h), (fun _ _ => ⟨rfl, rfl⟩), (fun _ h => by rw [hc] at h; cases h)⟩
      clear HPI HK4 HK5
      go_wp2_with (go_at_call 17; refine (unhide HPF _ HB).mono ?_; rintro e w3 ⟨⟨f, ov, v, hAn, rfl⟩, hb3⟩; have HB3 := hide (HB.trans (hb3.mono HB.size)); clear hb3)
      go_ret3
      exact ⟨⟨T, a, b, c, d, t, r, true, 0, f, false, H1, H3, unhide HOk f, rfl⟩, unhide HB3⟩
    · cases hd : d.toList.isEmpty
      · have HOk : Hid (∀ f, ReadOk a b c d true 0 f false) := fun f => ⟨(fun h => by cases h), (fun _ _ => ⟨rfl, rfl⟩), (fun _ _ h => by rw [hd] at h; cases h)⟩
        clear HPI HK4 HK5
        go_wp2_with (go_at_call 17; refine (unhide HPF _ HB).mono ?_; rintro e w3 ⟨⟨f, ov, v, hAn, rfl⟩, hb3⟩; have HB3 := hide (HB.trans (hb3.mono HB.size)); clear hb3)
        go_ret3
        exact ⟨⟨T, a, b, c, d, t, r, true, 0, f, false, H1, H3, unhide HOk f, rfl⟩, unhide HB3⟩
      · obtain ⟨hm, hW, hne⟩ := unhide HK5 hc hd
        have HPI2 := hide (unhide HPI hne)
        have HOk1 : Hid ((intV (a.data.toList == [45]) (dv b.data.toList 0)).2 = true → ReadOk a b c d true (intV (a.data.toList == [45]) (dv b.data.toList 0)).1 0 true) := fun hv =>
          ⟨(fun h => by cases h), (fun _ h => absurd ⟨hc, hd⟩ h), (fun _ _ _ => ⟨fun _ => ⟨rfl, rfl, rfl⟩, fun h => by rw [hv] at h; cases h⟩)⟩
        have HOk2 : Hid ((intV (a.data.toList == [45]) (dv b.data.toList 0)).2 = false → ∀ f ov, AnsOf t e0 m (a.data.toList == [45]) f ov → ReadOk a b c d true 0 f false) := fun hv f ov hA =>
          ⟨(fun h => by cases h), (fun _ _ => ⟨rfl, rfl⟩), (fun _ _ _ => ⟨(fun h => by rw [hv] at h; cases h), fun _ => ⟨rfl, rfl, by
            subst hm
            exact ans_big t e0 _ (unhide HK4) b.data.toList hW (intV_big hv) f ov hA⟩⟩)⟩
        clear HPI HK4 HK5 hm hW hne
        generalize intV (a.data.toList == [45]) (dv b.data.toList 0) = V2 at *
        obtain ⟨vn, vb⟩ := V2
        dsimp only at HPI2 HOk1 HOk2
        cases vb
        · have HOk3 := hide (unhide HOk2 rfl)
          have HPI3 : Hid (∀ W, Below w.heap.size w W → Calls Tryd.prog 16 #[.string (a ++ b), .int .i64 10, .int .i64 64] W fun e w' => (∃ v t p, e = .returned (.tuple #[.int .i64 v, .iface t p])) ∧ Below W.heap.size W w') := fun W hW => (unhide HPI2 W hW).mono (by
            rintro e w' ⟨hh, hb⟩
            rcases hh with ⟨hx, _⟩ | ⟨_, h⟩
            · cases hx
            · exact ⟨h, hb⟩)
          clear HOk1 HOk2 HPI2
          go_wp2_with (first | (go_at_call 16; refine (unhide HPI3 _ HB).mono ?_; rintro e w2 ⟨⟨v0, t0, p0, rfl⟩, hb2⟩; have q4' := (hb2.cell (p := ⟨A, 4, none⟩) (block_lt_of_cell q4)).trans q4; have HBx := HB.trans (hb2.mono HB.size); clear hb2 q0 q1 q2 q3 q4 HB) | (go_at_call 17; refine (unhide HPF _ HBx).mono ?_; rintro e w3 ⟨⟨f, ov, v, hAn, rfl⟩, hb3⟩; have HB3 := hide (HBx.trans (hb3.mono HBx.size)); clear hb3))
          go_ret3
          exact ⟨⟨T, a, b, c, d, t, r, true, 0, f, false, H1, H3, unhide HOk3 f ov (unhide hAn), rfl⟩, unhide HB3⟩
        · have HOk3 := hide (unhide HOk1 rfl)
          have HPI3 : Hid (∀ W, Below w.heap.size w W → Calls Tryd.prog 16 #[.string (a ++ b), .int .i64 10, .int .i64 64] W fun e w' => e = .returned (.tuple #[.int .i64 vn, .nilIface]) ∧ Below W.heap.size W w') := fun W hW => (unhide HPI2 W hW).mono (by
            rintro e w' ⟨hh, hb⟩
            rcases hh with ⟨_, h⟩ | ⟨hx, _⟩
            · exact ⟨h, hb⟩
            · cases hx)
          clear HOk1 HOk2 HPF HPI2
          go_wp2_with (first | (go_at_call 16; refine (unhide HPI3 _ HB).mono ?_; rintro e w2 ⟨rfl, hb2⟩; have HBx := hide (HB.trans (hb2.mono HB.size)); clear hb2 q0 q1 q2 q3 q4 HB))
          go_ret3
          exact ⟨⟨T, a, b, c, d, t, r, true, vn, 0, true, H1, H3, unhide HOk3, rfl⟩, unhide HBx⟩
end Go.Proofs.Qxb6606071aDoor.Fl
