import Derived.Test.Qxb6614997aFmtW1
import Derived.Test.Qxb6614997aFmtPlain3
import Derived.Laws.IdiomStrings
import Derived.Laws.Bits64
import Derived.Below
namespace Go.Proofs.Qxb6614997aFmt
open Go.RowKit

theorem zzItoa_zero (w : World) : Calls Tryf.prog 7 #[.int .i64 0] w fun e w' => e = .returned (.string ⟨#[48]⟩) ∧ w' = w := by
  go_enter Tryf.func7, Tryf.ntmps7
  go_wp2
  go_ret
  exact ⟨rfl, rfl⟩

/-- the buffer: 24 cells of a block, the last of which hold the digits ds. -/
structure Buf (w wr : World) (i : Nat) (ds : List UInt8) : Prop where
  below : Below w.heap.size w wr
  size : w.heap.size < wr.heap.size
  len : i + ds.length = 24
  some_ : ∀ j, j < 24 → (wr.cell? ⟨w.heap.size, j, none⟩).isSome = true
  free : ∀ j, wr.frozen? ⟨w.heap.size, j, none⟩ = false
  held : ∀ j (hj : j < ds.length), wr.cell? ⟨w.heap.size, i + j, none⟩ = some (.int .u8 (ds[j].toNat : Int))

theorem Buf.start (w : World) : Buf w (w.alloc (Obj.cells #[Value.int IntKind.u8 0, Value.int IntKind.u8 0, Value.int IntKind.u8 0, Value.int IntKind.u8 0,
      Value.int IntKind.u8 0, Value.int IntKind.u8 0, Value.int IntKind.u8 0, Value.int IntKind.u8 0,
      Value.int IntKind.u8 0, Value.int IntKind.u8 0, Value.int IntKind.u8 0, Value.int IntKind.u8 0,
      Value.int IntKind.u8 0, Value.int IntKind.u8 0, Value.int IntKind.u8 0, Value.int IntKind.u8 0,
      Value.int IntKind.u8 0, Value.int IntKind.u8 0, Value.int IntKind.u8 0, Value.int IntKind.u8 0,
      Value.int IntKind.u8 0, Value.int IntKind.u8 0, Value.int IntKind.u8 0, Value.int IntKind.u8 0] 38)) 24 [] := by
  refine ⟨(Below.refl _ w).alloc (Nat.le_refl _) _, by simp, rfl, ?_, ?_, fun j hj => by simp at hj⟩
  · intro j hj
    rcases (show j = 0 ∨ j = 1 ∨ j = 2 ∨ j = 3 ∨ j = 4 ∨ j = 5 ∨ j = 6 ∨ j = 7 ∨ j = 8 ∨ j = 9 ∨ j = 10 ∨ j = 11 ∨ j = 12 ∨ j = 13 ∨ j = 14 ∨ j = 15 ∨ j = 16 ∨ j = 17 ∨ j = 18 ∨ j = 19 ∨ j = 20 ∨ j = 21 ∨ j = 22 ∨ j = 23 by omega) with rfl | rfl | rfl | rfl | rfl | rfl | rfl | rfl | rfl | rfl | rfl | rfl | rfl | rfl | rfl | rfl | rfl | rfl | rfl | rfl | rfl | rfl | rfl | rfl <;> go_simp
  · intro j; go_simp

theorem Buf.put {w wr : World} {i : Nat} {ds : List UInt8} (h : Buf w wr (i + 1) ds) (c : UInt8) : Buf w (wr.setCell ⟨w.heap.size, i, none⟩ (.int .u8 (c.toNat : Int))) i (c :: ds) := by
  have hb := (Below.refl w.heap.size wr).setCell (p := ⟨w.heap.size, i, none⟩) (Nat.le_refl _) (.int .u8 (c.toNat : Int))
  have hl := h.len
  refine ⟨h.below.trans hb, by have := hb.size; have := h.size; omega, by simp; omega, ?_, ?_, ?_⟩
  · intro j hj
    by_cases e : j = i
    · subst e; rw [World.cell?_setCell_same' _ _ _ (h.some_ j hj)]; rfl
    · rw [World.cell?_setCell_other]
      · exact h.some_ j hj
      · intro e2; injection e2 with _ e3; exact e e3.symm
  · intro j; rw [World.frozen?_setCell]; exact h.free j
  · intro j hj
    cases j with
    | zero => exact World.cell?_setCell_same' _ _ _ (h.some_ i (by omega))
    | succ j =>
      rw [World.cell?_setCell_other]
      · have := h.held j (by simpa using hj)
        rw [show i + (j + 1) = i + 1 + j from by omega]
        simpa using this
      · intro e2; injection e2 with _ e3; omega

theorem add_off (b o j : Nat) : (⟨b, o, none⟩ : Addr).add j = ⟨b, o + j, none⟩ := by
  unfold Addr.add
  split
  · rename_i h; subst h; rfl
  · rfl

theorem slice24 (N k : Nat) (W : World) (hk : k < 24) : (Instr.sliceAt 38 (.pointer (some ⟨N, 0, none⟩)) (some (.int .i64 (k : Int))) none none).run Tryf.prog W = .ok (.slice (some ⟨N, k, none⟩) (24 - k) (24 - k)) W := by
  have e1 : Tryf.prog.arrayLen 38 = 24 := by kernel_rfl
  have e2 : Tryf.prog.elem 38 = 5 := by kernel_rfl
  rw [run_sliceAt_array_l W 38 ⟨N, 0, none⟩ (by rw [e1, e2]; exact Tryf.underlying38) .i64 (k : Int) (by omega) (by rw [e1]; omega), e1, e2]
  simp only [Tryf.sizeOf5, Result.andThen, slicedAt]
  rw [if_neg (by omega), add_off]
  simp

theorem digs_go {U v k : Nat} {ds : List UInt8} (h : Hid (v < 10 ^ (k + 1 - 4) ∧ Pl.digsF 20 U = Pl.digsF (k + 1 - 4) v ++ ds)) (hp : 0 < v) :
    4 ≤ k ∧ Hid (v / 10 < 10 ^ (k - 4) ∧ Pl.digsF 20 U = Pl.digsF (k - 4) (v / 10) ++ (UInt8.ofNat (48 + v % 10) :: ds)) := by
  obtain ⟨h1, h2⟩ := h
  have hk : 4 ≤ k := by
    rcases Nat.lt_or_ge k 4 with h | h
    · rw [show k + 1 - 4 = 0 from by omega] at h1; simp at h1; omega
    · exact h
  rw [show k + 1 - 4 = (k - 4) + 1 from by omega] at h1 h2
  refine ⟨hk, ?_, ?_⟩
  · rw [Nat.pow_succ] at h1
    exact Nat.div_lt_of_lt_mul (by omega)
  · rw [h2, Pl.digsF, if_neg (by omega)]; simp

theorem wrap_neg (U : Nat) (h : U ≤ 9223372036854775808) : IntKind.u64.wrap (-IntKind.u64.wrap (-(U : Int))) = (U : Int) := by
  rw [IntKind.wrap_u64, IntKind.wrap_u64]; omega

set_option maxRecDepth 100000 in
set_option maxHeartbeats 1000000 in
theorem zzItoa_pos (U : Nat) (w : World) (h0 : 0 < U) (h1 : U ≤ 9223372036854775807) :
    Calls Tryf.prog 7 #[.int .i64 (U : Int)] w fun e w' => e = .returned (.string ⟨(Pl.digsF 20 U).toArray⟩) ∧ Below w.heap.size w w' := by
  have HB := hide (Buf.start w)
  have hn0 : ¬ ((U : Int) < 0) := by omega
  have hz : ((U : Int) == 0) = false := by simp; omega
  go_enter Tryf.func7, Tryf.ntmps7
  go_wp2
  go_loopw [4, 6] (fun u i wr => ∃ (v k : Nat) (ds : List UInt8), u = .int .u64 v ∧ i = .int .i64 k ∧ 4 ≤ k ∧ k ≤ 24 ∧ v ≤ 9223372036854775808 ∧ Hid (v < 10 ^ (k - 4) ∧ Pl.digsF 20 U = Pl.digsF (k - 4) v ++ ds) ∧ Hid (Buf w wr k ds)) (fun u _ _ => (intOf u).toNat)
  case atStart => exact ⟨U, 24, [], rfl, rfl, by omega, by omega, by omega, ⟨by have : (10 : Nat) ^ (24 - 4) = 100000000000000000000 := by decide
                                                                                omega, by simp⟩, HB⟩
  case round =>
    obtain ⟨v, k, ds, rfl, rfl, hk4, hk24, hv, HV, HBB⟩ := hrel
    by_cases hp : 0 < v
    · obtain ⟨k, rfl⟩ : ∃ k', k = k' + 1 := ⟨k - 1, by omega⟩
      obtain ⟨old, hs⟩ := Option.isSome_iff_exists.1 ((unhide HBB).some_ k (by omega))
      have hf := (unhide HBB).free k
      have HP := hide ((unhide HBB).put (UInt8.ofNat (48 + v % 10)))
      have he : ((48 : Int) + (v : Int) % 10) = ((UInt8.ofNat (48 + v % 10)).toNat : Int) := by rw [Pl.digit_toNat]; omega
      have HE := hide he
      clear he
      go_wp2
      rw [unhide HE]
      go_roundw
      case rel => exact ⟨v / 10, k, UInt8.ofNat (48 + v % 10) :: ds, by go_num, rfl, (digs_go HV hp).1, by omega, by omega, (digs_go HV hp).2, HP⟩
      case measure => simp [intOf]; omega
    · have hv0 : v = 0 := by omega
      subst hv0
      have HD : Hid (Pl.digsF 20 U = ds) := by have := (unhide HV).2; rw [Pl.digsF_zero] at this; exact (by simpa using this : Pl.digsF 20 U = ds)
      have hl := (unhide HBB).len
      have hcv := run_convert_bytes_back (P := Tryf.prog) wr 39 9 5 ⟨w.heap.size, k, none⟩ (24 - k) ds Tryf.underlying39 Tryf.underlying5 Tryf.underlying9 (fun j hj => by
        rw [add_off]; exact (unhide HBB).held j hj)
      rw [show ds.length = 24 - k from by omega] at hcv
      have hk : k < 24 := by
        have h2 := Pl.digsF_ne 20 U (by omega) (by have : (10 : Nat) ^ 20 = 100000000000000000000 := by decide
                                                   omega)
        rw [unhide HD] at h2
        have : ds.length ≠ 0 := fun e => h2 (List.length_eq_zero_iff.1 e)
        omega
      have hsl := slice24 w.heap.size k wr hk
      go_wp2
      go_ret
      exact ⟨by rw [unhide HD]; rfl, (unhide HBB).below⟩
set_option maxRecDepth 100000 in
set_option maxHeartbeats 1000000 in
theorem zzItoa_neg (U : Nat) (w : World) (h0 : 0 < U) (h1 : U ≤ 9223372036854775808) :
    Calls Tryf.prog 7 #[.int .i64 (-(U : Int))] w fun e w' => e = .returned (.string ⟨(45 :: Pl.digsF 20 U).toArray⟩) ∧ Below w.heap.size w w' := by
  have HB := hide (Buf.start w)
  have hn0 : -(U : Int) < 0 := by omega
  have hd0 : decide (-(U : Int) < 0) = true := decide_eq_true hn0
  have hww := wrap_neg U (by omega)
  have hz : ((U : Int) == 0) = false := by simp; omega
  go_enter Tryf.func7, Tryf.ntmps7
  go_wp2
  go_loopw [4, 6] (fun u i wr => ∃ (v k : Nat) (ds : List UInt8), u = .int .u64 v ∧ i = .int .i64 k ∧ 4 ≤ k ∧ k ≤ 24 ∧ v ≤ 9223372036854775808 ∧ Hid (v < 10 ^ (k - 4) ∧ Pl.digsF 20 U = Pl.digsF (k - 4) v ++ ds) ∧ Hid (Buf w wr k ds)) (fun u _ _ => (intOf u).toNat)
  case atStart => exact ⟨U, 24, [], rfl, rfl, by omega, by omega, by omega, ⟨by have : (10 : Nat) ^ (24 - 4) = 100000000000000000000 := by decide
                                                                                omega, by simp⟩, HB⟩
  case round =>
    obtain ⟨v, k, ds, rfl, rfl, hk4, hk24, hv, HV, HBB⟩ := hrel
    by_cases hp : 0 < v
    · obtain ⟨k, rfl⟩ : ∃ k', k = k' + 1 := ⟨k - 1, by omega⟩
      obtain ⟨old, hs⟩ := Option.isSome_iff_exists.1 ((unhide HBB).some_ k (by omega))
      have hf := (unhide HBB).free k
      have HP := hide ((unhide HBB).put (UInt8.ofNat (48 + v % 10)))
      have he : ((48 : Int) + (v : Int) % 10) = ((UInt8.ofNat (48 + v % 10)).toNat : Int) := by rw [Pl.digit_toNat]; omega
      have HE := hide he
      clear he
      go_wp2
      rw [unhide HE]
      go_roundw
      case rel => exact ⟨v / 10, k, UInt8.ofNat (48 + v % 10) :: ds, by go_num, rfl, (digs_go HV hp).1, by omega, by omega, (digs_go HV hp).2, HP⟩
      case measure => simp [intOf]; omega
    · have hv0 : v = 0 := by omega
      subst hv0
      have HD : Hid (Pl.digsF 20 U = ds) := by have := (unhide HV).2; rw [Pl.digsF_zero] at this; exact (by simpa using this : Pl.digsF 20 U = ds)
      have hl := (unhide HBB).len
      have hk : k < 24 := by
        have h2 := Pl.digsF_ne 20 U (by omega) (by have : (10 : Nat) ^ 20 = 100000000000000000000 := by decide
                                                   omega)
        rw [unhide HD] at h2
        have : ds.length ≠ 0 := fun e => h2 (List.length_eq_zero_iff.1 e)
        omega
      have hk2 : 4 ≤ k := by omega
      obtain ⟨k, rfl⟩ : ∃ k', k = k' + 1 := ⟨k - 1, by omega⟩
      have HP := hide ((unhide HBB).put 45)
      have hP2 := (unhide HBB).put 45
      obtain ⟨old, hs⟩ := Option.isSome_iff_exists.1 ((unhide HBB).some_ k (by omega))
      have hf := (unhide HBB).free k
      have hsl := slice24 w.heap.size k (wr.setCell ⟨w.heap.size, k, none⟩ (.int .u8 45)) (by omega)
      have hcv := run_convert_bytes_back (P := Tryf.prog) (wr.setCell ⟨w.heap.size, k, none⟩ (.int .u8 45)) 39 9 5 ⟨w.heap.size, k, none⟩ (24 - k) (45 :: ds) Tryf.underlying39 Tryf.underlying5 Tryf.underlying9 (fun j hj => by
        rw [add_off]; exact (unhide HP).held j hj)
      rw [show (45 :: ds).length = 24 - k from by simp; omega] at hcv
      clear hP2
      go_wp2
      go_ret
      exact ⟨by rw [unhide HD]; rfl, (unhide HP).below⟩
theorem zzItoa_any (n : Int) (w : World) (h1 : -9223372036854775808 ≤ n) (h2 : n ≤ 9223372036854775807) :
    Calls Tryf.prog 7 #[.int .i64 n] w fun e w' => e = .returned (.string ⟨(Pl.itoa n).toArray⟩) ∧ Below w.heap.size w w' := by
  by_cases e : n = 0
  · subst e
    refine (zzItoa_zero w).mono ?_
    rintro e w' ⟨rfl, rfl⟩
    exact ⟨rfl, Below.refl _ _⟩
  · by_cases h : n < 0
    · have e1 : n = -((-n).toNat : Int) := by omega
      have e2 : Pl.itoa n = 45 :: Pl.digsF 20 (-n).toNat := by unfold Pl.itoa; rw [if_neg e, if_pos h]
      rw [e2]
      generalize (-n).toNat = U at *
      subst e1
      exact zzItoa_neg U w (by omega) (by omega)
    · have e1 : n = (n.toNat : Int) := by omega
      have e2 : Pl.itoa n = Pl.digsF 20 n.toNat := by unfold Pl.itoa; rw [if_neg e, if_neg h]
      rw [e2]
      generalize n.toNat = U at *
      subst e1
      exact zzItoa_pos U w (by omega) (by omega)
end Go.Proofs.Qxb6614997aFmt
