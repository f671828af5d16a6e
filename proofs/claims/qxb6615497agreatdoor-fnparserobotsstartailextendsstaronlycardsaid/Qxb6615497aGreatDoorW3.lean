import Derived.Test.Qxb6615497aGreatDoorW1
import Derived.Test.Qxb6615497aGreatDoorPlain
import Derived.WalkKit
import Derived.OwnWalk
import Derived.Lib.OthersKept
import Derived.Lib.FieldsP
import Derived.Deep.LoopGhost
import Derived.Deep.CutBlock
import Derived.Deep.DeepCutAuto
import Derived.Laws.MakeOwn
import Derived.Laws.OwnMore
import Derived.Maps.AppendAt
import Derived.Deep.DeepMust
import Derived.Deep.DeepFit
import Derived.Laws.DeepStrings4
/- bytes.FieldsFunc at isLineEnd: the guide's own walk of the string twin, turned to slices of bytes. -/
namespace Go.Proofs.Qxb6615497aGreatDoor
open Go.RowKit Go.Lib

/-- a field as a slice of the body's own memory. -/
def fieldV (b off : Nat) (x : Nat × Nat) : Value := .slice (some ⟨b, off + x.1, none⟩) (x.2 - x.1) (x.2 - x.1)

/-- the result's row when i fields have been laid. -/
def rowF (b off : Nat) (SP : List (Nat × Nat)) (i : Nat) : List Value :=
  ((SP.take i).map (fieldV b off)) ++ List.replicate (SP.length - i) (Value.slice none 0 0)
theorem rowF_zero (b off : Nat) (SP : List (Nat × Nat)) : rowF b off SP 0 = List.replicate SP.length (Value.slice none 0 0) := by simp [rowF]
theorem rowF_all (b off : Nat) (SP : List (Nat × Nat)) : rowF b off SP SP.length = SP.map (fieldV b off) := by simp [rowF]
theorem rowF_set (b off : Nat) (SP : List (Nat × Nat)) (i : Nat) (x : Nat × Nat) (h : SP[i]? = some x) : (rowF b off SP i).set i (fieldV b off x) = rowF b off SP (i + 1) := by
  have hi : i < SP.length := (List.getElem?_eq_some_iff.1 h).1
  have ht : SP.take (i + 1) = SP.take i ++ [x] := by rw [List.take_add_one, h]; rfl
  have hr : List.replicate (SP.length - i) (Value.slice none 0 0) = Value.slice none 0 0 :: List.replicate (SP.length - (i + 1)) (Value.slice none 0 0) := by
    rw [show SP.length - i = (SP.length - (i + 1)) + 1 by omega, List.replicate_succ]
  have hl : ((SP.take i).map (fieldV b off)).length = i := by simp; omega
  unfold rowF
  rw [ht, hr, List.map_append, List.append_assoc]
  have hm := set_mid ((SP.take i).map (fieldV b off)) (Value.slice none 0 0) (fieldV b off x) (List.replicate (SP.length - (i + 1)) (Value.slice none 0 0))
  rw [hl] at hm
  rw [hm]
  rfl

theorem ownBelow {W W' : World} {B e size n : Nat} {v : Value} {xs : List Value} (h : W.ownsRow B e size v n xs) (hb : Below W.heap.size W W') : W'.ownsRow B e size v n xs :=
  h.kept (row := none) ⟨hb.os, hb.tape, hb.output, hb.size, fun k hk _ => hb.block k hk⟩ (Classical.em _)

theorem cellTwoNew (w : World) (x y : Value) (t : TypeId) : ∀ j u, [x, y][j]? = some u → (w.alloc (.cells #[x, y] t)).cell? ((⟨w.heap.size, 0, none⟩ : Addr).add j) = some u := by
  intro j u hj
  match j, hj with
  | 0, hj => simp at hj; subst hj; simp [Addr.add]
  | 1, hj => simp at hj; subst hj; simp [Addr.add]
  | k + 2, hj => simp at hj

/-- what FieldsFunc asks of utf8.DecodeRune: at each place of the body, in each later world. -/
def DecodesAt (b off cap : Nat) (s : ByteArray) (w : World) : Prop :=
  ∀ (W : World) (pos : Nat), Below w.heap.size w W → pos < s.size →
    Calls Tryz.prog 44 #[.slice (some ⟨b, off + pos, none⟩) (s.size - pos) (cap - pos)] W fun e W' => e = .returned (.tuple #[.int .i32 (Utf8.decode s pos).1, .int .i64 (Utf8.decode s pos).2]) ∧ Below W.heap.size W W'

set_option maxHeartbeats 4000000 in
set_option maxRecDepth 1000000 in
theorem fieldsFunc_any (b off cap : Nat) (s : ByteArray) (w : World) (hs : s.size ≤ 4294967296) (hcap : s.size ≤ cap) (hD : DecodesAt b off cap s w) :
    Calls Tryz.prog 26 #[.slice (some ⟨b, off, none⟩) s.size cap, .func (.func 19) #[] #[]] w fun e w' => ∃ A, e = .returned (.slice (some ⟨A, 0, none⟩) (Lib.spansOfP isEol s).length (Lib.spansOfP isEol s).length) ∧ w.heap.size ≤ A ∧
      w'.ownsRow w.heap.size 22 1 (.slice (some ⟨A, 0, none⟩) (Lib.spansOfP isEol s).length (Lib.spansOfP isEol s).length) (Lib.spansOfP isEol s).length ((Lib.spansOfP isEol s).map (fieldV b off)) ∧ Below w.heap.size w w' := by
  obtain ⟨i0, hi, hz0, hz1, hz2⟩ := info_parts (P := Tryz.prog) (e := 84) (z := .agg #[.int .i64 0, .int .i64 0]) (size := 2) (bytes := 16) (by kernel_rfl)
  obtain ⟨W0, hmk, hown0, hg0⟩ := run_make_own (P := Tryz.prog) w w.heap.size 80 84 i0 _ 2 Tryz.underlying80 hi hz0 hz1 .i64 .i64 32 (by rw [hz2]; decide) (by unfold maxLen; decide) (Nat.le_refl _)
  rw [show ((32 : Nat) : Int) = 32 from rfl] at hmk
  have hb0 : Below w.heap.size w W0 := (Below.refl _ w).grown hg0 (Nat.le_refl _) (fun k hk => by cases hk)
  go_enter Tryz.func26, Tryz.ntmps26
  go_wp2
  go_loopg [5, 6, 7] s.size (fun gf s5 s6 s7 wx => ∃ (pos : Nat) (st : Option Nat) (acc : List (Nat × Nat)), s7 = .int .i64 pos ∧ s6 = .int .i64 (st.elim (-1) fun a => (a : Int)) ∧
      wx.ownsRow w.heap.size 84 2 s5 acc.length (Lib.spanCells acc) ∧ Below w.heap.size w wx ∧
      Lib.spansFromP isEol s gf pos st acc = Lib.spansFromP isEol s s.size 0 none [] ∧ s.size ≤ pos + gf ∧ pos ≤ s.size ∧ acc.length ≤ pos ∧ (∀ a, st = some a → a < pos) ∧ (∀ x ∈ acc, x.1 < x.2 ∧ x.2 ≤ s.size) ∧ s5 ≠ .slice none 0 0)
  case atStart =>
    exact ⟨0, none, [], rfl, rfl, hown0, hb0, rfl, by omega, Nat.zero_le _, Nat.le_refl _, (fun a h => by cases h), (fun x hx => by cases hx), (fun h => by cases h)⟩
  case round =>
    obtain ⟨pos, st, acc, rfl, rfl, hown, hbw, hsp, hfu, hps, hal, hst, hok, hnn⟩ := hrel
    by_cases hlt : pos < s.size
    · obtain ⟨g', rfl⟩ : ∃ g', gk = g' + 1 := ⟨gk - 1, by omega⟩
      have hpz : (pos : Int) < (s.size : Int) := by omega
      have cD := hD wr pos hbw hlt
      have hwd := Lib.width_pos s pos
      have hwn : pos + (Utf8.decode s pos).2 ≤ s.size := by
        have := Lib.decodeN_le_n' (s.size - pos) (s.get! pos).toNat (s.get! (pos + 1)).toNat (s.get! (pos + 2)).toNat (s.get! (pos + 3)).toNat (by omega)
        rw [← Lib.decode_at] at this
        omega
      have hr1 := Lib.rune_le s pos
      obtain ⟨R, hR⟩ : ∃ R, (Utf8.decode s pos).1 = R := ⟨_, rfl⟩
      obtain ⟨K, hK⟩ : ∃ K, (Utf8.decode s pos).2 = K := ⟨_, rfl⟩
      simp only [Lib.spansFromP, hlt, if_true, hR, hK] at hsp
      rw [hR, hK] at cD
      rw [hK] at hwd hwn
      rw [hR] at hr1
      have hle : lineEnd (R : Int) = isEol R := by
        unfold lineEnd isEol
        rw [Bool.eq_iff_iff]; simp; omega
      have cS := fun W => isLineEnd_any (R : Int) W
      rw [hle] at cS
      have HSP := hide hsp
      have HD := hide cD
      have HS := hide cS
      clear hsp cD cS hD hR hK hle
      cases hpr : isEol R
      · -- no separator
        rw [hpr] at HS HSP
        cases st with
        | none =>
          go_wp2_with (first
            | (go_at_call 44; go_must (refine (unhide HD).mono ?_; rintro e W' ⟨rfl, hbc⟩))
            | (go_at_call 19; go_must (refine (unhide HS _).mono ?_; rintro e W'' ⟨rfl, hw⟩; obtain rfl := hw.symm)))
          go_roundg g'
          case measure => omega
          case rel => exact ⟨pos + K, some pos, acc, by go_num, rfl, ownBelow hown hbc, hbw.trans (hbc.mono hbw.size), unhide HSP, by omega, hwn, by omega, fun a h => by cases h; omega, hok, hnn⟩
        | some a =>
          have ha0 := hst a rfl
          go_wp2_with (first
            | (go_at_call 44; go_must (refine (unhide HD).mono ?_; rintro e W' ⟨rfl, hbc⟩))
            | (go_at_call 19; go_must (refine (unhide HS _).mono ?_; rintro e W'' ⟨rfl, hw⟩; obtain rfl := hw.symm)))
          go_roundg g'
          case measure => omega
          case rel => exact ⟨pos + K, some a, acc, by go_num, rfl, ownBelow hown hbc, hbw.trans (hbc.mono hbw.size), unhide HSP, by omega, hwn, by omega, fun b h => by cases h; omega, hok, hnn⟩
      · rw [hpr] at HS HSP
        cases st with
        | none =>
          go_wp2_with (first
            | (go_at_call 44; go_must (refine (unhide HD).mono ?_; rintro e W' ⟨rfl, hbc⟩))
            | (go_at_call 19; go_must (refine (unhide HS _).mono ?_; rintro e W'' ⟨rfl, hw⟩; obtain rfl := hw.symm)))
          go_roundg g'
          case measure => omega
          case rel => exact ⟨pos + K, none, acc, by go_num, rfl, ownBelow hown hbc, hbw.trans (hbc.mono hbw.size), unhide HSP, by omega, hwn, by omega, (fun a h => by cases h), hok, hnn⟩
        | some a =>
          have ha0 := hst a rfl
          go_wp2_with (first
            | (go_at_call 44; go_must (refine (unhide HD).mono ?_; rintro e W' ⟨rfl, hbc⟩))
            | (go_at_call 19; go_must (refine (unhide HS _).mono ?_; rintro e W'' ⟨rfl, hw⟩; obtain rfl := hw.symm))
            | (at_builtin; go_must (refine wpList_append_own _ rfl (.tmp 30) (.tmp 34) 80 rfl w.heap.size 84 i0 (.agg #[.int .i64 0, .int .i64 0]) 2 16 Tryz.underlying80 hi hz0 hz1 hz2 rfl (by decide) _ _ _ rfl ((ownBelow hown hbc).alloc _) ⟨W'.heap.size, 0, none⟩ 1 1 [.int .i64 (a : Int), .int .i64 (pos : Int)] rfl rfl (cellTwoNew _ _ _ _) (by intro u hu; simp at hu; rcases hu with rfl | rfl <;> rfl) (by unfold maxLen; omega) (by omega) (by have := hbw.size; have := hbc.size; simp; omega) ?_; intro v3 w3 hown3 hgrow3 hnil3)))
          go_roundg g'
          case measure => omega
          case rel =>
            have hX := (ownBelow hown hbc).alloc (.cells #[.int .i64 (a : Int), .int .i64 (pos : Int)] 84)
            refine ⟨pos + K, none, acc ++ [(a, pos)], by go_num, rfl, by rw [List.length_append, Lib.spanCells_snoc]; exact hown3, ?_, unhide HSP, by omega, hwn, by simp; omega, (fun b h => by cases h), ?_, fun h => by have := (hnil3.1 h).2; omega⟩
            · exact ((hbw.trans (hbc.mono hbw.size)).alloc (by have := hbw.size; have := hbc.size; omega) _).grown hgrow3 (by have := hbw.size; have := hbc.size; simp; omega) (fun j hj => (hX.lt j hj).1)
            · intro x hx
              rcases List.mem_append.1 hx with h | h
              · exact hok x h
              · simp at h; subst h; exact ⟨by simp; omega, by simp; omega⟩
    · obtain rfl : pos = s.size := by omega
      rw [Lib.spansFromP_end isEol s gk _ _ _ hlt] at hsp
      have hpz : ¬ ((s.size : Int) < (s.size : Int)) := by omega
      have hSP : Lib.spansOfP isEol s = Lib.closeSpans s (acc, st) := by unfold Lib.spansOfP; rw [← hsp]
      have hokS : ∀ x ∈ Lib.spansOfP isEol s, x.1 < x.2 ∧ x.2 ≤ s.size := by
        rw [hSP]
        cases st with
        | none => exact hok
        | some a =>
          intro x hx
          rcases List.mem_append.1 hx with h | h
          · exact hok x h
          · simp at h; subst h; have := hst a rfl; exact ⟨by simp; omega, by simp⟩
      have hlenS : (Lib.spansOfP isEol s).length ≤ s.size + 1 := by
        rw [hSP]
        cases st with
        | none => show acc.length ≤ _; omega
        | some a => show (acc ++ [(a, s.size)]).length ≤ _; simp; omega
      clear hD hsp
      go_upto_if 43 with fail
      go_cut [5] (fun s5 wx => wx.ownsRow w.heap.size 84 2 s5 (Lib.spansOfP isEol s).length (Lib.spanCells (Lib.spansOfP isEol s)) ∧ Below w.heap.size w wx ∧ s5 ≠ .slice none 0 0)
      case first =>
        cases st with
        | none =>
          go_wp2_with fail
          go_meet
          exact ⟨by rw [hSP]; exact hown, hbw, hnn⟩
        | some a =>
          have ha0 := hst a rfl
          go_wp2_with (at_builtin; go_must (refine wpList_append_own _ rfl (.tmp 44) (.tmp 49) 80 rfl w.heap.size 84 i0 (.agg #[.int .i64 0, .int .i64 0]) 2 16 Tryz.underlying80 hi hz0 hz1 hz2 rfl (by decide) _ _ _ rfl (hown.alloc _) ⟨wr.heap.size, 0, none⟩ 1 1 [.int .i64 (a : Int), .int .i64 (s.size : Int)] rfl rfl (cellTwoNew _ _ _ _) (by intro u hu; simp at hu; rcases hu with rfl | rfl <;> rfl) (by unfold maxLen; omega) (by omega) (by have := hbw.size; simp; omega) ?_; intro v3 w3 hown3 hgrow3 hnil3))
          go_wp2_with fail
          go_meet
          have hX := hown.alloc (.cells #[.int .i64 (a : Int), .int .i64 (s.size : Int)] 84)
          exact ⟨by rw [hSP]; show w3.ownsRow _ _ _ _ (acc ++ [(a, s.size)]).length (Lib.spanCells (acc ++ [(a, s.size)])); rw [List.length_append, Lib.spanCells_snoc]; exact hown3,
            (hbw.alloc hbw.size _).grown hgrow3 (by have := hbw.size; simp; omega) (fun j hj => (hX.lt j hj).1), fun h => by have := (hnil3.1 h).2; omega⟩
      case rest =>
        obtain ⟨hownS, hbS, hnnS⟩ := hcut
        obtain ⟨SP, hSPe⟩ : ∃ SP, Lib.spansOfP isEol s = SP := ⟨_, rfl⟩
        rw [hSPe] at hownS hokS hlenS
        have HE := hide hSPe
        clear hSP hown hbw hok hnn hSPe
        obtain ⟨g5, cap5, rfl⟩ : ∃ g5 cap5, u5 = .slice (some ⟨g5, 0, none⟩) SP.length cap5 := by
          rcases hownS.2 with ⟨h, _⟩ | ⟨g5, cap5, _, h, _⟩
          · exact absurd h hnnS
          · exact ⟨g5, cap5, h⟩
        have hg5 : g5 < wc.heap.size := (hownS.lt g5 rfl).2
        obtain ⟨i9, hi9', hz90, hz91, hz92⟩ := info_parts (P := Tryz.prog) (e := 22) (z := .slice none 0 0) (size := 1) (bytes := 24) (by kernel_rfl)
        obtain ⟨W5, hmk5, hown5, hgr5⟩ := run_make_full (P := Tryz.prog) wc w.heap.size 57 22 i9 _ 1 Tryz.underlying57 hi9' hz90 hz91 .i64 .i64 SP.length (by rw [hz92]; omega) (by unfold maxLen; omega) hbS.size
        have hS5 := hownS.kept hgr5 (Classical.em _)
        have hb5 : Below w.heap.size w W5 := hbS.grown hgr5 hbS.size (fun k hk => by cases hk)
        rw [show (Value.slice none 0 0).cells = #[Value.slice none 0 0] from rfl, Nat.mul_one, toList_madeCells_one, ← rowF_zero b off SP] at hown5
        go_wp2
        go_loopg [56] SP.length (fun gf s56 wx => ∃ i : Nat, i + gf = SP.length ∧ s56 = .int .i64 i ∧ wx.ownsRow w.heap.size 22 1 (.slice (some ⟨wc.heap.size, 0, none⟩) SP.length SP.length) SP.length (rowF b off SP i) ∧
          wx.ownsRow w.heap.size 84 2 (.slice (some ⟨g5, 0, none⟩) SP.length cap5) SP.length (Lib.spanCells SP) ∧ Below w.heap.size w wx)
        case atStart => exact ⟨0, by omega, rfl, hown5, hS5, hb5⟩
        case round =>
          obtain ⟨i, hig, rfl, hA, hS, hbr⟩ := hrel
          cases gk with
          | zero =>
            have hin : ¬ ((i : Int) < (SP.length : Int)) := by omega
            obtain rfl : i = SP.length := by omega
            go_wp2
            go_ret
            rw [rowF_all] at hA
            obtain rfl := (unhide HE).symm
            exact ⟨wc.heap.size, rfl, hbS.size, hA, hbr⟩
          | succ gf =>
            have hin : (i : Int) < (SP.length : Int) := by omega
            obtain ⟨x, hx⟩ : ∃ x, SP[i]? = some x := ⟨_, List.getElem?_eq_getElem (by omega)⟩
            have hxo := hokS x (List.mem_of_getElem? hx)
            have hc0 : wr.cell? ⟨g5, i * 2, none⟩ = some (.int .i64 x.1) := (hS.cellAt (i * 2) (by omega)).trans (Lib.spanCells_at SP i x hx).1
            have hc1 : wr.cell? ⟨g5, i * 2 + 1, none⟩ = some (.int .i64 x.2) := (hS.cellAt (i * 2 + 1) (by omega)).trans (Lib.spanCells_at SP i x hx).2
            have hA' := hA.alloc (.cells #[.int .i64 (x.1 : Int), .int .i64 (x.2 : Int)] 84)
            have hS' := hS.alloc (.cells #[.int .i64 (x.1 : Int), .int .i64 (x.2 : Int)] 84)
            obtain ⟨old, hold⟩ : ∃ old, (rowF b off SP i)[i]? = some old := ⟨_, List.getElem?_eq_getElem (by have := hA.1; omega)⟩
            have hcA := (hA'.cellAt i (by omega)).trans hold
            have hfA := hA'.frozenAt i
            go_wp2
            go_roundg gf
            case measure => omega
            case rel =>
              have hst' := hA'.stored i (fieldV b off x)
              rw [rowF_set b off SP i x hx] at hst'
              refine ⟨i + 1, by omega, by go_num, ?_, ?_, ?_⟩
              · exact hst'.1
              · exact hS'.kept hst'.2 (by simp [Value.ownBlock]; omega)
              · exact (hbr.alloc hbr.size _).grown hst'.2 (by have := hbr.size; simp; omega) (fun k hk => by cases hk; exact hbS.size)
end Go.Proofs.Qxb6615497aGreatDoor
