import Derived.Test.Qxb6614997aFmtProg
import Derived.Test.Qxb6614997aFmtPlain
import Derived.WalkKit
import Derived.WalkSpells
namespace Go.Proofs.Qxb6614997aFmt
open Go.RowKit

theorem hide {p : Prop} (h : p) : Hid p := h
theorem unhide {p : Prop} (h : Hid p) : p := h.out

theorem foldl_step_le : ∀ (l : List UInt8) (a : Nat), a ≤ Pl.mx → l.foldl Pl.step a ≤ Pl.mx
  | [], _, h => h
  | c :: r, a, h => by
    refine foldl_step_le r (Pl.step a c) ?_
    unfold Pl.step
    split
    · exact Nat.le_refl _
    · rename_i h1
      have := c.toNat_lt
      unfold Pl.mx at h1 ⊢
      omega

theorem take_snoc (s : ByteArray) (k : Nat) (h : k < s.size) : s.data.toList.take (k + 1) = s.data.toList.take k ++ [s[k]] := by
  rw [List.take_succ_eq_append_getElem (by simpa using h)]; rfl

theorem isDig_int (c : UInt8) : Pl.isDig c = decide (48 ≤ (c.toNat : Int) ∧ (c.toNat : Int) ≤ 57) := by
  unfold Pl.isDig
  rw [Bool.eq_iff_iff]; simp; omega


/-- parseCount's two results. -/
def cntN (l : List UInt8) : Int := ((Pl.count l).getD 0 : Nat)
def cntB (l : List UInt8) : Bool := (Pl.count l).isSome

theorem cnt_bad (l : List UInt8) (h : l.all Pl.isDig = false) : cntN l = 0 ∧ cntB l = false := by
  unfold cntN cntB Pl.count
  by_cases e : l = []
  · simp [e]
  · simp [e, h]

theorem cnt_good (l : List UInt8) (h0 : l ≠ []) (h : l.all Pl.isDig = true) : cntN l = (l.foldl Pl.step 0 : Nat) ∧ cntB l = true := by
  unfold cntN cntB Pl.count
  simp [h0, h]

theorem all_take_false (s : ByteArray) (k : Nat) (hk : k < s.size) (h : Pl.isDig s[k] = false) : s.data.toList.all Pl.isDig = false := by
  rw [List.all_eq_false]
  exact ⟨s[k], by have : s[k] = s.data.toList[k]'(by simpa using hk) := rfl; rw [this]; exact List.getElem_mem _, by simp [h]⟩

theorem step_sat (n : Nat) (c : UInt8) (h : (n : Int) > (9223372036854775807 - ((c.toNat : Int) - 48)) / 10) (h1 : 48 ≤ (c.toNat : Int)) (h2 : (c.toNat : Int) ≤ 57) : Pl.step n c = 9223372036854775807 := by
  unfold Pl.step Pl.mx; rw [if_pos (by omega)]
theorem step_go (n : Nat) (c : UInt8) (h : ¬ (n : Int) > (9223372036854775807 - ((c.toNat : Int) - 48)) / 10) (h1 : 48 ≤ (c.toNat : Int)) (h2 : (c.toNat : Int) ≤ 57) : (Pl.step n c : Int) = n * 10 + ((c.toNat : Int) - 48) := by
  unfold Pl.step Pl.mx; rw [if_neg (by omega)]; omega

theorem ret_int2 {a b : Int} {x y : Bool} (h : a = b) (hx : x = y) : Ending.returned (.tuple #[.int .i64 a, .bool x]) = .returned (.tuple #[.int .i64 b, .bool y]) := by rw [h, hx]

set_option maxHeartbeats 1000000 in
theorem parseCount_any (s : ByteArray) (w : World) (hs : s.size ≤ 16777216) :
    Calls Tryf.prog 21 #[.string s] w fun e w' => e = .returned (.tuple #[.int .i64 (cntN s.data.toList), .bool (cntB s.data.toList)]) ∧ w' = w := by
  by_cases h0 : s.size = 0
  · have hl : s.data.toList = [] := by have : s.data.toList.length = 0 := by simpa using h0
                                       exact List.length_eq_zero_iff.1 this
    have hl2 : s.toList.isEmpty = true := by rw [ByteArray.toList_eq, hl]; rfl
    have h3 : cntN s.data.toList = 0 ∧ cntB s.data.toList = false := by rw [hl]; exact ⟨rfl, rfl⟩
    have H3 := hide h3
    clear h3 hl
    go_enter Tryf.func21, Tryf.ntmps21
    go_wp2
    go_ret2
    exact ⟨ret_int2 (unhide H3).1.symm (unhide H3).2.symm, rfl⟩
  · have hne : s.data.toList ≠ [] := by intro h; apply h0; have := congrArg List.length h; simpa using this
    have hl2 : s.toList.isEmpty = false := by rw [ByteArray.toList_eq]; simpa using hne
    have HN := hide hne
    clear hne
    go_enter Tryf.func21, Tryf.ntmps21
    go_wp2
    go_loop [4, 5] (fun n i => ∃ k : Nat, k ≤ s.size ∧ i = .int .i64 k ∧ n = .int .i64 ((s.data.toList.take k).foldl Pl.step 0 : Nat) ∧ (s.data.toList.take k).all Pl.isDig = true) (fun _ i => s.size - (intOf i).toNat)
    case atStart => exact ⟨0, Nat.zero_le _, rfl, rfl, rfl⟩
    case round =>
      obtain ⟨k, hk, rfl, rfl, hall⟩ := hrel
      have hmx := foldl_step_le (s.data.toList.take k) 0 (Nat.zero_le _)
      unfold Pl.mx at hmx
      have HA := hide hall
      clear hall
      by_cases hlt : k < s.size
      · have hts := take_snoc s k hlt
        have hd := isDig_int s[k]
        have HS : Hid ((s.data.toList.take (k + 1)).foldl Pl.step 0 = Pl.step ((s.data.toList.take k).foldl Pl.step 0) s[k] ∧ (s.data.toList.take (k + 1)).all Pl.isDig = Pl.isDig s[k]) := by
          refine hide ⟨by rw [hts, List.foldl_append]; rfl, ?_⟩
          rw [hts, List.all_append, unhide HA]; simp
        have HB : Hid (Pl.isDig s[k] = false → cntN s.data.toList = 0 ∧ cntB s.data.toList = false) := hide (fun h => cnt_bad _ (all_take_false s k hlt h))
        have HD := hide hd
        clear hts hd
        generalize (s.data.toList.take k).foldl Pl.step 0 = N at *
        go_wp2
        · go_ret2
          have hb := (unhide HB) (by rw [unhide HD]; exact decide_eq_false (by omega))
          exact ⟨ret_int2 hb.1.symm hb.2.symm, rfl⟩
        · go_round
          case rel => exact ⟨k + 1, by omega, by go_num, by rw [(unhide HS).1, step_sat N _ (by omega) (by omega) (by omega)]; rfl, by rw [(unhide HS).2, unhide HD]; exact decide_eq_true (by omega)⟩
          case measure => simp [intOf]; omega
        · go_round
          case rel => exact ⟨k + 1, by omega, by go_num, by rw [(unhide HS).1, step_go N _ (by omega) (by omega) (by omega)], by rw [(unhide HS).2, unhide HD]; exact decide_eq_true (by omega)⟩
          case measure => simp [intOf]; omega
        · go_ret2
          have hb := (unhide HB) (by rw [unhide HD]; exact decide_eq_false (by omega))
          exact ⟨ret_int2 hb.1.symm hb.2.symm, rfl⟩
      · have hkk : s.data.toList.take k = s.data.toList := List.take_of_length_le (by simp; omega)
        have hg := cnt_good s.data.toList (unhide HN) (by rw [← hkk]; exact unhide HA)
        have HG := hide hg
        have HK := hide hkk
        clear hg hkk
        go_wp2
        go_ret2
        exact ⟨ret_int2 (by rw [unhide HK, (unhide HG).1]) (unhide HG).2.symm, rfl⟩

theorem Tryf.cells69 : Tryf.prog.cellsOf 69 = 1 := by kernel_rfl

/-- WHAT THE ROAD READS OF MEMORY THAT LAY BEFORE: the table of net/url, and MaxLen (any number). -/
def TabAt (w : World) : Prop := ∀ c : Nat, c < 256 → w.cell? ⟨1, c, none⟩ = some (.int .u8 (Pl.tab.getD c 0))

theorem bits_hex : ∀ c : Fin 256, (bits .and .u8 (Pl.tab.getD c.val 0) 128 != 0) = Pl.hexB (UInt8.ofNat c.val) := by decide +kernel

set_option maxHeartbeats 1000000 in
theorem ishex_any (c : UInt8) (w : World) (hT : TabAt w) :
    Calls Tryf.prog 39 #[.int .u8 c.toNat] w fun e w' => e = .returned (.bool (Pl.hexB c)) ∧ w' = w := by
  have hc := hT c.toNat c.toNat_lt
  have hb := bits_hex ⟨c.toNat, c.toNat_lt⟩
  simp only [UInt8.ofNat_toNat, List.getD_eq_getElem?_getD] at hb
  have HB := hide hb
  clear hb
  have hlt := c.toNat_lt
  go_enter Tryf.func39, Tryf.ntmps39
  go_wp2
  go_ret
  exact ⟨congrArg (fun b => Ending.returned (.bool b)) (unhide HB), rfl⟩

theorem unh_eq : ∀ c : Fin 256, ((Pl.unh (UInt8.ofNat c.val)).toNat : Int) = 9 * ((c.val : Int) / 64) + (c.val : Int) % 16 := by decide +kernel

set_option maxHeartbeats 1000000 in
theorem unhex_any (c : UInt8) (w : World) :
    Calls Tryf.prog 40 #[.int .u8 c.toNat] w fun e w' => e = .returned (.int .u8 (Pl.unh c).toNat) ∧ w' = w := by
  have hlt := c.toNat_lt
  have hb := unh_eq ⟨c.toNat, c.toNat_lt⟩
  simp only [UInt8.ofNat_toNat] at hb
  have HB := hide hb
  clear hb
  go_enter Tryf.func40, Tryf.ntmps40
  go_wp2
  go_ret
  exact ⟨congrArg (fun b => Ending.returned (.int .u8 b)) (unhide HB).symm, rfl⟩

set_option maxHeartbeats 1000000 in
theorem zzBytes5_any (q : ByteArray) (a b c : Int) (w : World) (hs : q.size ≤ maxLen) :
    Calls Tryf.prog 5 #[.string q, .int .i64 a, .int .i64 b, .int .i64 c] w fun e w' => e = .returned (.bool (decide (q.size ≤ 1048576))) ∧ w' = w := by
  unfold maxLen at hs
  by_cases h : q.size ≤ 1048576
  · rw [decide_eq_true h]
    go_enter Tryf.func5, Tryf.ntmps5
    go_wp2
    go_ret
    exact ⟨rfl, rfl⟩
  · rw [decide_eq_false h]
    go_enter Tryf.func5, Tryf.ntmps5
    go_wp2
    go_ret
    exact ⟨rfl, rfl⟩
end Go.Proofs.Qxb6614997aFmt
