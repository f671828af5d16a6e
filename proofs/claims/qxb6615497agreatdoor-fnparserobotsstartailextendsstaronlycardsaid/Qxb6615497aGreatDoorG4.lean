import Derived.Test.Qxb6615497aGreatDoorG3
import Derived.Test.Qxb6615497aGreatDoorS4
import Derived.Test.Qxb6615497aGreatDoorW8
import Derived.Test.Qxb6615497aGreatDoorF6
import Derived.Deep.Cut
import Derived.Deep.CutRange
import Derived.Deep.CutBlock
import Derived.Deep.DeepCutAuto
/- canonicalPath at every string: it returns a string. -/
namespace Go.Proofs.Qxb6615497aGreatDoor
open Go Go.RowKit

/-- the builder holds the bytes l. -/
def Has (B : Nat) (l : List UInt8) (wr : World) : Prop := Lib.IsBuilder 99 5 B B (Lib.byteCells l) wr

theorem ownsRow_stay {w w' : World} {base size n : Nat} {e : TypeId} {v : Value} {xs : List Value} (h : w.ownsRow base e size v n xs) (hb : Below w.heap.size w w') : w'.ownsRow base e size v n xs := by
  obtain ⟨h1, h2⟩ := h
  refine ⟨h1, ?_⟩
  rcases h2 with h2 | ⟨g, cap, cur, e1, e2, e3, e4⟩
  · exact .inl h2
  · exact .inr ⟨g, cap, cur, e1, e2, (hb.block g (Array.getElem?_eq_some_iff.1 e3).1).trans e3, e4⟩
theorem builder_stay {T e : TypeId} {B b : Nat} {p : Value} {bs : List Value} {w w' : World} (h : Lib.BuilderAt T e B b p bs w) (hb : Below w.heap.size w w') : Lib.BuilderAt T e B b p bs w' := by
  obtain ⟨h1, v, h2, h3, h4⟩ := h
  exact ⟨h1, v, (hb.block b (Array.getElem?_eq_some_iff.1 h2).1).trans h2, ownsRow_stay h3 hb, h4⟩
theorem Has.stay {B : Nat} {l : List UInt8} {w w' : World} (h : Has B l w) (hb : Below w.heap.size w w') : Has B l w' := by
  rcases h with h | h
  · exact .inl (builder_stay h hb)
  · exact .inr (builder_stay h hb)
theorem wrapB_range (z : Int) : 0 ≤ IntKind.u8.wrap z ∧ IntKind.u8.wrap z < 256 := by
  unfold IntKind.wrap
  simp [IntKind.signed, IntKind.bits]
  omega
theorem wrapI_id (z : Int) (h : -9223372036854775808 ≤ z ∧ z ≤ 9223372036854775807) : IntKind.i64.wrap z = z := by
  unfold IntKind.wrap
  simp [IntKind.signed, IntKind.bits]
  omega
theorem get_bang' (s : ByteArray) (i : Nat) (h : i < s.size) : s.get! i = s[i]'h := by
  show s.data[i]! = s.data[i]
  exact getElem!_pos s.data i h

theorem has_byte {B : Nat} {l : List UInt8} {wr : World} (h : Has B l wr) (hl : l.length ≤ 100000000) (hB : B ≤ wr.heap.size) (c : Int) (hc : 0 ≤ c ∧ c < 256) :
    Calls Tryz.prog 63 #[.pointer (some ⟨B, 0, none⟩), .int .u8 c] wr fun e w' => e = .returned .nilIface ∧ (∃ l', Has B l' w' ∧ l'.length = l.length + 1) ∧ Below B wr w' := by
  refine (Tryz.Builder_WriteByte B B (Lib.byteCells l) c wr h (by simp [Lib.byteCells]; omega) hB).mono ?_
  rintro e w' ⟨rfl, h1, h2⟩
  refine ⟨rfl, ⟨l ++ [UInt8.ofNat c.toNat], ?_, by simp⟩, h2⟩
  have e : Lib.byteCells (l ++ [UInt8.ofNat c.toNat]) = Lib.byteCells l ++ [.int .u8 c] := by
    rw [Lib.byteCells_append]
    congr 1
    simp [Lib.byteCells]
    omega
  unfold Has
  rw [e]
  exact .inr h1
theorem has_str {B : Nat} {l : List UInt8} {wr : World} (h : Has B l wr) (hl : l.length ≤ 100000000) (hB : B ≤ wr.heap.size) (s : ByteArray) (hs : s.size ≤ 100) :
    Calls Tryz.prog 64 #[.pointer (some ⟨B, 0, none⟩), .string s] wr fun e w' => e = .returned (.tuple #[.int .i64 s.size, .nilIface]) ∧ (∃ l', Has B l' w' ∧ l'.length = l.length + s.size) ∧ Below B wr w' := by
  refine (Tryz.Builder_WriteString B B (Lib.byteCells l) s wr h (by simp [Lib.byteCells]; omega) hB).mono ?_
  rintro e w' ⟨rfl, h1, h2⟩
  refine ⟨rfl, ⟨l ++ s.data.toList, ?_, by simp⟩, h2⟩
  unfold Has
  rw [Lib.byteCells_append]
  exact .inr h1

theorem enc_one (x : UInt8) (h : x.toNat < 128) : (Utf8.encode (x.toNat : Int)).size = 1 := by
  have all : ∀ n : Fin 128, (Utf8.encode ((n.val : Nat) : Int)).size = 1 := by decide +kernel
  exact all ⟨x.toNat, h⟩
theorem and15 (x : UInt8) : ∃ b : Nat, b < 16 ∧ bits BinOp.and .u8 (x.toNat : Int) 15 = b := by
  have all : ∀ n : Fin 256, ∃ b : Fin 16, bits BinOp.and .u8 ((n.val : Nat) : Int) 15 = ((b.val : Nat) : Int) := by decide +kernel
  obtain ⟨b, hb⟩ := all ⟨x.toNat, UInt8.toNat_lt x⟩
  exact ⟨b.val, b.isLt, hb⟩
theorem upper_small (a : Nat) (h : a < (⟨#[48, 49, 50, 51, 52, 53, 54, 55, 56, 57, 65, 66, 67, 68, 69, 70]⟩ : ByteArray).size) : ((⟨#[48, 49, 50, 51, 52, 53, 54, 55, 56, 57, 65, 66, 67, 68, 69, 70]⟩ : ByteArray)[a]'h).toNat < 128 := by
  have all : ∀ n : Fin 16, ((⟨#[48, 49, 50, 51, 52, 53, 54, 55, 56, 57, 65, 66, 67, 68, 69, 70]⟩ : ByteArray)[n.val]'n.isLt).toNat < 128 := by decide +kernel
  exact all ⟨a, h⟩

set_option maxHeartbeats 4000000 in
set_option maxRecDepth 100000 in
theorem canonicalPath_any (s : ByteArray) (w : World) (hs : s.size ≤ 16777216) :
    Calls Tryz.prog 38 #[.string s] w fun e w' => (∃ r, e = .returned (.string r)) ∧ Below w.heap.size w w' := by
  have HX := hide isHex_any
  go_enter Tryz.func38, Tryz.ntmps38
  go_wp2_with fail
  go_loopg [4, 5, 6] s.size (fun gf s4 s5 s6 wr => ∃ (k : Nat) (l : List UInt8), s.size ≤ k + gf ∧ s4 = .int .i64 k ∧ l.length ≤ 3 * k ∧ k ≤ s.size ∧ Hid (Has w.heap.size l wr ∧ Below w.heap.size w wr))
  case atStart => exact ⟨0, [], by omega, rfl, by simp, by omega, Lib.fresh_isBuilder 99 5 w, (Below.refl _ w).alloc (Nat.le_refl _) _⟩
  case round =>
    obtain ⟨k, l, hfu, rfl, hl, hks, HB⟩ := hrel
    have hl' : l.length ≤ 100000000 := by omega
    have hBz := (unhide HB).2.size
    by_cases hlt : k < s.size
    · obtain ⟨g, rfl⟩ : ∃ g, gk = g + 1 := ⟨gk - 1, by omega⟩
      have hkz : (k : Int) < (s.size : Int) := by omega
      obtain ⟨x, hx⟩ : ∃ x : UInt8, s[k]'hlt = x := ⟨_, rfl⟩
      have hx256 := UInt8.toNat_lt x
      have HWB := hide (fun c hc => has_byte (unhide HB).1 hl' hBz c hc)
      have HWS := hide (fun t ht => has_str (unhide HB).1 hl' hBz t ht)
      by_cases hesc : x.toNat = 37 ∧ k + 2 < s.size ∧ hexB ((s.get! (k + 1)).toNat : Int) = true ∧ hexB ((s.get! (k + 2)).toNat : Int) = true
      · obtain ⟨e37, hk2, hy, hz⟩ := hesc
        have z37 : (x.toNat : Int) = 37 := by omega
        obtain ⟨y, hye⟩ : ∃ y : UInt8, s[k + 1]'(by omega) = y := ⟨_, rfl⟩
        obtain ⟨z, hze⟩ : ∃ z : UInt8, s[k + 2]'(by omega) = z := ⟨_, rfl⟩
        rw [get_bang' s (k + 1) (by omega), hye] at hy
        rw [get_bang' s (k + 2) (by omega), hze] at hz
        have hk2z : (k : Int) + 2 < (s.size : Int) := by omega
        have hk1z : (k : Int) + 1 < (s.size : Int) := by omega
        have hk3z : (k : Int) + 3 ≤ (s.size : Int) := by omega
        have HUx := hide uhx_calls
        have HUn := hide unres_calls
        have HUP := hide (fun W => Tryz.strings_ToUpper_ascii (s.extract (k + 1) (k + 3)) W (by rw [size_ext s _ _ (by omega) (by omega)]; omega) (fun j b hjb => by
          have hsz := size_ext s (k + 1) (k + 3) (by omega) (by omega)
          have hj : j < (s.extract (k + 1) (k + 3)).size := by
            rcases Nat.lt_or_ge j (s.extract (k + 1) (k + 3)).size with h | h
            · exact h
            · rw [List.getElem?_eq_none (by rw [Array.length_toList]; exact h)] at hjb; cases hjb
          rw [get_list _ j hj] at hjb
          injection hjb with hjb
          rw [← hjb, get_ext s (k + 1) (k + 3) j (by omega) (by omega)]
          have h1 := hexB_small hy
          have h2 := hexB_small hz
          have : j = 0 ∨ j = 1 := by omega
          rcases this with rfl | rfl
          · show (s[k + 1]'_).toNat < 128; rw [hye]; omega
          · show (s[k + 1 + 1]'_).toNat < 128
            have : s[k + 1 + 1]'(by omega) = z := hze
            rw [this]; omega))
        obtain ⟨T, hT, hTs⟩ : ∃ T : ByteArray, (⟨(Lib.toUpperA (s.extract (k + 1) (k + 3)).data.toList).toArray⟩ : ByteArray) = T ∧ T.size = 2 := by
          refine ⟨_, rfl, ?_⟩
          have hsz := size_ext s (k + 1) (k + 3) (by omega) (by omega)
          show (Lib.toUpperA (s.extract (k + 1) (k + 3)).data.toList).toArray.size = 2
          rw [List.size_toArray]
          unfold Lib.toUpperA
          rw [List.length_map, Array.length_toList]
          exact hsz.trans (by omega)
        rw [hT] at HUP
        clear hT
        have HU3 := hide (show (⟨#[37]⟩ ++ T : ByteArray).size = 3 by
          rw [ByteArray.size_append, hTs]; rfl)
        go_upto_region 7 with fail
        go_cut [18] from 19 to 41 (fun v wx => v = .bool true ∧ wx = wr)
        case first =>
          go_wp2_with (go_at_call 60; refine (unhide HX _ _).mono ?_; rintro e w' ⟨rfl, hw⟩; obtain rfl := hw.symm)
          go_meet
          exact ⟨rfl, rfl⟩
        case rest =>
          obtain ⟨rfl, rfl⟩ := hcut
          obtain ⟨k1, hk1⟩ : ∃ k1, k1 = k + 1 := ⟨_, rfl⟩
          obtain ⟨k2, hk2'⟩ : ∃ k2, k2 = k + 2 := ⟨_, rfl⟩
          have q1 : IntKind.i64.wrap ((k : Int) + 1) = (k1 : Int) := (wrapI_id _ (by omega)).trans (by omega)
          have q2 : IntKind.i64.wrap ((k : Int) + 2) = (k2 : Int) := (wrapI_id _ (by omega)).trans (by omega)
          have p1 : k1 < s.size := by omega
          have p2 : k2 < s.size := by omega
          have p1z : (k1 : Int) < (s.size : Int) := by omega
          have p2z : (k2 : Int) < (s.size : Int) := by omega
          have r1 : s[k1]'p1 = y := by subst hk1; exact hye
          have r2 : s[k2]'p2 = z := by subst hk2'; exact hze
          clear hk1 hk2' hk1z hk2z
          go_wp2
          go_quiet (exact Calls.quiet_of_same (unhide HUx _ _))
          have HBD := hide (And.intro ((unhide HB).1.stay (belowDrewQ (Below.refl wc.heap.size wc) nq)) (belowDrewQ (unhide HB).2 nq))
          have HWB2 := hide (fun c hc => has_byte (unhide HBD).1 hl' (unhide HBD).2.size c hc)
          obtain ⟨V, hV⟩ : ∃ V, bits BinOp.or IntKind.u8 (uhx (y.toNat : Int) * 16 % 256) (uhx (z.toNat : Int)) = V := ⟨_, rfl⟩
          have HV : Hid (0 ≤ V ∧ V < 256) := by rw [← hV]; exact wrapB_range _
          clear q1 q2 p1 p2 p1z p2z r1 r2 HX HWB HWS HUx
          rw [hV]
          clear hV
          have hk1z : (k : Int) + 1 < (s.size : Int) := by omega
          cases hu : unresB V
          · by_cases v42 : V = 42
            · subst v42
              go_wp2_with (first | (go_at_call 62; refine (unhide HUn _ _).mono ?_; rintro e w2 ⟨rfl, hw⟩; obtain rfl := hw.symm) | (go_at_call 63; refine (unhide HWB2 _ (unhide HV)).mono ?_; rintro e w2 ⟨rfl, ⟨l2, hh2, hl2⟩, hb2⟩; have H2 := hide (And.intro hh2 ((unhide HBD).2.trans hb2)); clear hh2 hb2))
              go_roundg g
              case measure => omega
              case rel => exact ⟨k + 3, l2, by omega, by go_num, by omega, by omega, (unhide H2).1, (unhide H2).2⟩
            · have b42 : (V == 42) = false := by simpa using v42
              by_cases v36 : V = 36
              · subst v36
                go_wp2_with (first | (go_at_call 62; refine (unhide HUn _ _).mono ?_; rintro e w2 ⟨rfl, hw⟩; obtain rfl := hw.symm) | (go_at_call 63; refine (unhide HWB2 _ (unhide HV)).mono ?_; rintro e w2 ⟨rfl, ⟨l2, hh2, hl2⟩, hb2⟩; have H2 := hide (And.intro hh2 ((unhide HBD).2.trans hb2)); clear hh2 hb2))
                go_roundg g
                case measure => omega
                case rel => exact ⟨k + 3, l2, by omega, by go_num, by omega, by omega, (unhide H2).1, (unhide H2).2⟩
              · have b36 : (V == 36) = false := by simpa using v36
                have b42 : (V == 42) = false := by simpa using v42
                clear v36 v42
                go_wp2_with (first | (go_at_call 62; refine (unhide HUn _ _).mono ?_; rintro e w2 ⟨rfl, hw⟩; obtain rfl := hw.symm) | (go_at_call 65; refine (unhide HUP _).mono ?_; rintro e w4 ⟨rfl, hb4⟩; have HB4 := hide (And.intro ((unhide HBD).1.stay hb4) ((unhide HBD).2.trans (hb4.mono (unhide HBD).2.size))); clear hb4) | (go_at_call 64; refine (has_str (unhide HB4).1 hl' (unhide HB4).2.size _ (by rw [unhide HU3]; omega)).mono ?_; rintro e w2 ⟨rfl, ⟨l2, hh2, hl2⟩, hb2⟩; have H2 := hide (And.intro hh2 ((unhide HB4).2.trans hb2)); rw [unhide HU3] at hl2; clear hh2 hb2))
                go_roundg g
                case measure => omega
                case rel => exact ⟨k + 3, l2, by omega, by go_num, by omega, by omega, (unhide H2).1, (unhide H2).2⟩
          · skip
            go_wp2_with (first | (go_at_call 62; refine (unhide HUn _ _).mono ?_; rintro e w2 ⟨rfl, hw⟩; obtain rfl := hw.symm) | (go_at_call 63; refine (unhide HWB2 _ (unhide HV)).mono ?_; rintro e w2 ⟨rfl, ⟨l2, hh2, hl2⟩, hb2⟩; have H2 := hide (And.intro hh2 ((unhide HBD).2.trans hb2)); clear hh2 hb2))
            go_roundg g
            case measure => omega
            case rel => exact ⟨k + 3, l2, by omega, by go_num, by omega, by omega, (unhide H2).1, (unhide H2).2⟩
      · go_upto_region 7 with fail
        go_cut [18] from 16 to 41 (fun v wx => v = .bool false ∧ wx = wr)
        case first =>
          by_cases e37 : x.toNat = 37
          · have z37 : ((x.toNat : Int) == 37) = true := by simp; omega
            have HE37 := hide e37
            clear e37
            by_cases hk2 : k + 2 < s.size
            · obtain ⟨y, hye⟩ : ∃ y : UInt8, s[k + 1]'(by omega) = y := ⟨_, rfl⟩
              obtain ⟨z, hze⟩ : ∃ z : UInt8, s[k + 2]'(by omega) = z := ⟨_, rfl⟩
              rw [get_bang' s (k + 1) (by omega), get_bang' s (k + 2) (by omega), hye, hze] at hesc
              have hk2z : (k : Int) + 2 < (s.size : Int) := by omega
              have hk1z : (k : Int) + 1 < (s.size : Int) := by omega
              cases hy : hexB (y.toNat : Int)
              · go_wp2_with (go_at_call 60; refine (unhide HX _ _).mono ?_; rintro e w' ⟨rfl, hw⟩; obtain rfl := hw.symm)
                go_meet
                exact ⟨rfl, rfl⟩
              · cases hz : hexB (z.toNat : Int)
                · go_wp2_with (go_at_call 60; refine (unhide HX _ _).mono ?_; rintro e w' ⟨rfl, hw⟩; obtain rfl := hw.symm)
                  go_meet
                  exact ⟨rfl, rfl⟩
                · exact absurd ⟨unhide HE37, hk2, hy, hz⟩ hesc
            · have hk2z : ¬ ((k : Int) + 2 < (s.size : Int)) := by omega
              go_wp2
              go_meet
              exact ⟨rfl, rfl⟩
          · have b37 : ((x.toNat : Int) == 37) = false := by simp; omega
            go_wp2
            go_meet
            exact ⟨rfl, rfl⟩
        case rest =>
          obtain ⟨rfl, rfl⟩ := hcut
          clear hesc
          by_cases hbad : x.toNat ≤ 32 ∨ 127 ≤ x.toNat ∨ x.toNat = 37
          · go_upto_region 13 with fail
            go_cut [77] from 78 to 87 (fun v wx => v = .bool true ∧ wx = wc)
            case first =>
              by_cases c1 : (x.toNat : Int) ≤ 32
              · go_wp2
                go_meet
                exact ⟨rfl, rfl⟩
              · by_cases c2 : (127 : Int) ≤ (x.toNat : Int)
                · go_wp2
                  go_meet
                  exact ⟨rfl, rfl⟩
                · have c3 : ((x.toNat : Int) == 37) = true := by simp; omega
                  go_wp2
                  go_meet
                  exact ⟨rfl, rfl⟩
            case rest =>
              obtain ⟨rfl, rfl⟩ := hcut
              obtain ⟨a, ha, hae⟩ : ∃ a : Nat, a < 16 ∧ (x.toNat : Int) / 16 = a := ⟨x.toNat / 16, by omega, by simp⟩
              obtain ⟨b, hb, hbe⟩ := and15 x
              have haz : (a : Int) < 16 := by omega
              have hbz : (b : Int) < 16 := by omega
              obtain ⟨y1, hy1⟩ : ∃ y1 : UInt8, (⟨#[48, 49, 50, 51, 52, 53, 54, 55, 56, 57, 65, 66, 67, 68, 69, 70]⟩ : ByteArray)[a]'ha = y1 := ⟨_, rfl⟩
              obtain ⟨y2, hy2⟩ : ∃ y2 : UInt8, (⟨#[48, 49, 50, 51, 52, 53, 54, 55, 56, 57, 65, 66, 67, 68, 69, 70]⟩ : ByteArray)[b]'hb = y2 := ⟨_, rfl⟩
              have n1 := upper_small a ha
              have n2 := upper_small b hb
              rw [hy1] at n1
              rw [hy2] at n2
              have s1 := enc_one y1 n1
              have s2 := enc_one y2 n2
              have HS3 := hide (show (⟨#[37]⟩ ++ Utf8.encode (y1.toNat : Int) ++ Utf8.encode (y2.toNat : Int) : ByteArray).size = 3 by
                rw [ByteArray.size_append, ByteArray.size_append, s1, s2]; rfl)
              clear HWB hbad HX
              go_wp2
              go_region_with (go_at_call 64; refine (has_str ((unhide HB).1.stay (Below.drew (Below.refl _ _))) hl' hBz _ (by rw [unhide HS3]; omega)).mono ?_; rintro e w2 ⟨rfl, ⟨l2, hh2, hl2⟩, hb2⟩; have H2 := hide (And.intro hh2 ((unhide HB).2.trans ((Below.drew (Below.refl _ _)).trans hb2))); rw [unhide HS3] at hl2; clear hh2 hb2)
              all_goals
                go_wp2
                go_roundg g
                case measure => omega
                case rel => exact ⟨k + 1, l2, by omega, by go_num, by omega, by omega, (unhide H2).1, (unhide H2).2⟩
          · have z1 : ¬ ((x.toNat : Int) ≤ 32) := by omega
            have z2 : ¬ ((127 : Int) ≤ (x.toNat : Int)) := by omega
            have z3 : ((x.toNat : Int) == 37) = false := by simp; omega
            have HV : Hid (0 ≤ (x.toNat : Int) ∧ (x.toNat : Int) < 256) := ⟨by omega, by omega⟩
            clear hbad
            go_wp2_with (go_at_call 63; refine (unhide HWB _ (unhide HV)).mono ?_; rintro e w2 ⟨rfl, ⟨l2, hh2, hl2⟩, hb2⟩; have H2 := hide (And.intro hh2 ((unhide HB).2.trans hb2)); clear hh2 hb2)
            go_roundg g
            case measure => omega
            case rel => exact ⟨k + 1, l2, by omega, by go_num, by omega, by omega, (unhide H2).1, (unhide H2).2⟩
    · obtain rfl : k = s.size := by omega
      have hkz : ¬ ((s.size : Int) < (s.size : Int)) := by omega
      have HS := hide (Tryz.Builder_String_any w.heap.size w.heap.size l wr (unhide HB).1 hBz)
      go_wp2_with (go_at_call 66; refine (unhide HS).mono ?_; rintro e w2 ⟨rfl, hb2⟩)
      go_ret
      exact ⟨⟨_, rfl⟩, (unhide HB).2.trans hb2⟩
end Go.Proofs.Qxb6615497aGreatDoor
