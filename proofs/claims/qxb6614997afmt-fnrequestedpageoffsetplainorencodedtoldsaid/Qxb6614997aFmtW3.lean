import Derived.Test.Qxb6614997aFmtW2
import Derived.Test.Qxb6614997aFmtPlain2
import Derived.Test.Qxb6614997aFmtSeqLaw
import Derived.Test.Qxb6614997aFmtShelf
import Derived.RangeFuncNested
import Derived.RangeFuncBound
import Derived.RangeFuncCalls
import Derived.RangeFuncLeaves
import Derived.OwnWalkIn
import Derived.TacticsInMore
import Derived.LoopNIn
import Derived.LoopIn
namespace Go.Proofs.Qxb6614997aFmt
open Go.RowKit Go.Shelf
attribute [local go_sem] Oper.semAt_some

/-- the pieces of a query, as strings. -/
def pieces (s : ByteArray) : List ByteArray := (Pl.pairs s.data.toList).map fun l => ⟨l.toArray⟩

/-- how much of the string in that cell is left. -/
def leftIn (a : Addr) (w : World) : Nat := match w.cell? a with
  | some (.string c) => c.size
  | _ => 0
theorem leftIn_eq {a : Addr} {w : World} {c : ByteArray} (h : w.cell? a = some (.string c)) : leftIn a w = c.size := by
  unfold leftIn; rw [h]

theorem cell_set_far (w : World) (b1 b2 o1 o2 : Nat) (v : Value) (h : b1 ≠ b2) : (w.setCell ⟨b1, o1, none⟩ v).cell? ⟨b2, o2, none⟩ = w.cell? ⟨b2, o2, none⟩ := by
  apply World.cell?_setCell_other
  intro e
  injection e with e1
  exact h e1
theorem bytes_eq {a b : ByteArray} (h : a.data.toList = b.data.toList) : a = b := by
  cases a; cases b; simp at h; simp [h]
theorem ext_toList (s : ByteArray) (i j : Nat) : (s.extract i j).data.toList = (s.data.toList.drop i).take (j - i) := by
  rw [Lib.extract_data]
theorem pieces_none (cur : ByteArray) (h : ∀ d ∈ cur.data.toList, d ≠ 38) : pieces cur = [cur] := by
  unfold pieces; rw [Pl.pairs_none _ h]
  simp
theorem pieces_amp (cur : ByteArray) (a b : List UInt8) (h : cur.data.toList = a ++ 38 :: b) (hna : ∀ d ∈ a, d ≠ 38) :
    pieces cur = cur.extract 0 a.length :: pieces (cur.extract (a.length + 1) cur.size) := by
  have e1 : (cur.extract 0 a.length).data.toList = a := by rw [ext_toList, h]; simp
  have hl : cur.size = a.length + 1 + b.length := by have := congrArg List.length h; simp at this; omega
  have e2 : (cur.extract (a.length + 1) cur.size).data.toList = b := by rw [ext_toList, h, hl]; simp
  unfold pieces
  rw [e2, h, Pl.pairs_amp a b hna]
  simp only [List.map_cons]
  congr 1
  exact bytes_eq (by rw [e1])

set_option maxRecDepth 100000 in
set_option maxHeartbeats 2000000 in
theorem split_gives (Bs Bsep Bsv n₀ : Nat) (s : ByteArray) (w : World) (hs : s.size ≤ 16777216) (h1 : Bs < n₀) (h2 : Bsep < n₀) (h3 : Bsv < n₀) (hne1 : Bs ≠ Bsep) (hne2 : Bs ≠ Bsv) (hn₀ : n₀ ≤ w.heap.size)
    (c1 : w.cell? ⟨Bs, 0, none⟩ = some (.string s)) (f1 : w.frozen? ⟨Bs, 0, none⟩ = false) (c2 : w.cell? ⟨Bsep, 0, none⟩ = some (.string ⟨#[38]⟩)) (c3 : w.cell? ⟨Bsv, 0, none⟩ = some (.int .i64 0)) :
    Gives Fence.wide 3 Tryf.prog 36 #[.pointer (some ⟨Bsep, 0, none⟩), .pointer (some ⟨Bs, 0, none⟩), .pointer (some ⟨Bsv, 0, none⟩)] Value.string ⟨Bs, 0, none⟩ n₀ (pieces s) w := by
  intro l J Jx W hW hJb hY h0
  have d1 := (hW.cell (p := ⟨Bs, 0, none⟩) (by show Bs < _; omega)).trans c1
  have g1 := (hW.frozen (p := ⟨Bs, 0, none⟩) (by show Bs < _; omega)).trans f1
  have d2 := (hW.cell (p := ⟨Bsep, 0, none⟩) (by show Bsep < _; omega)).trans c2
  have d3 := (hW.cell (p := ⟨Bsv, 0, none⟩) (by show Bsv < _; omega)).trans c3
  refine callsIn_of_wp Tryf.func36 rfl trivial ?_ rfl
  simp only [Tryf.ntmps36, List.size_toArray, List.length_cons, List.length_nil, Nat.reduceAdd, Nat.reduceSub, Array.replicate_succ, Array.replicate_zero, List.push_toArray, List.append_toArray, List.nil_append, List.cons_append]
  gi_wp2
  gi_loopw [7] (fun _ wr => ∃ (pre : List ByteArray) (cur : ByteArray), cur.size ≤ s.size ∧ wr.cell? ⟨Bs, 0, none⟩ = some (.string cur) ∧ wr.frozen? ⟨Bs, 0, none⟩ = false ∧ wr.cell? ⟨Bsep, 0, none⟩ = some (.string ⟨#[38]⟩) ∧ wr.cell? ⟨Bsv, 0, none⟩ = some (.int .i64 0) ∧ pieces s = pre ++ pieces cur ∧ J pre wr)
    (fun _ wr => leftIn ⟨Bs, 0, none⟩ wr)
  case atStart => exact ⟨[], s, Nat.le_refl _, d1, g1, d2, d3, rfl, h0⟩
  case round =>
    obtain ⟨pre, cur, hsz, e1, k1, e2, e3, hp, hJ⟩ := hrel
    have hI := fun w => Tryf.strings_Index_one cur 38 w
    rcases Pl.idx_split 38 cur.data.toList with ⟨hi, hno⟩ | ⟨a, b, hab, hna, hi⟩
    · rw [hi] at hI
      have HI := hide hI
      have HP := hide hp
      have HN := hide hno
      clear hI hi hp hno
      obtain ⟨fn, tmps, assign, body, hy, hR⟩ := hY pre cur wr (by rw [unhide HP, pieces_none cur (unhide HN)]; exact List.prefix_refl _) hJ
      gi_wp2_with (refine ⟨trivial, ?_⟩; gi_at_call 32; refine (callsIn_wide.2 (unhide HI _)).mono ?_; rintro e w' ⟨rfl, rfl⟩)
      refine hR.mono ?_
      rintro e W3 (⟨rfl, hJ3, hk3⟩ | ⟨rfl, hx3⟩)
      · gi_wp2
        go_end0
        exact ⟨⟨_, rfl⟩, .inl (by rw [unhide HP, pieces_none cur (unhide HN)]; exact hJ3)⟩
      · gi_wp2
        go_end0
        exact ⟨⟨_, rfl⟩, .inr ⟨_, by rw [unhide HP, pieces_none cur (unhide HN)]; exact List.prefix_refl _, hx3⟩⟩
    · rw [hi] at hI
      have HI := hide hI
      have HP := hide (hp.trans (congrArg (pre ++ ·) (pieces_amp cur a b hab hna)))
      have hlen : a.length < cur.size := by have := congrArg List.length hab; simp at this; omega
      clear hI hi hp hab hna
      have hl0 : ¬ ((a.length : Int) < 0) := by omega
      have hd0 : decide ((a.length : Int) < 0) = false := decide_eq_false hl0
      obtain ⟨fn, tmps, assign, body, hy, hR⟩ := hY pre (cur.extract 0 a.length) wr (by rw [unhide HP]; exact ⟨pieces (cur.extract (a.length + 1) cur.size), by simp⟩) hJ
      gi_wp2_with (refine ⟨trivial, ?_⟩; gi_at_call 32; refine (callsIn_wide.2 (unhide HI _)).mono ?_; rintro e w' ⟨rfl, rfl⟩)
      refine hR.mono ?_
      rintro e W3 (⟨rfl, hJ3, hk3⟩ | ⟨rfl, hx3⟩)
      · have e1' := (hk3.cell (p := ⟨Bs, 0, none⟩) h1).trans e1
        have k1' := (hk3.frozen (p := ⟨Bs, 0, none⟩) h1).trans k1
        have e2' := (hk3.cell (p := ⟨Bsep, 0, none⟩) h2).trans e2
        have e3' := (hk3.cell (p := ⟨Bsv, 0, none⟩) h3).trans e3
        have hm := leftIn_eq e1
        have HM := hide hm
        clear hm e1 k1 e2 e3
        gi_wp2
        go_roundw
        case rel =>
          refine ⟨pre ++ [cur.extract 0 a.length], cur.extract (a.length + 1) cur.size, by simp; omega, World.cell?_setCell_same' _ _ _ (by rw [e1']; rfl), by rw [World.frozen?_setCell]; exact k1', ?_, ?_, by rw [unhide HP]; simp, hJb _ _ _ hJ3⟩
          · rw [cell_set_far _ _ _ _ _ _ hne1]; exact e2'
          · rw [cell_set_far _ _ _ _ _ _ hne2]; exact e3'
        case measure =>
          rw [unhide HM, leftIn_eq (World.cell?_setCell_same' _ _ _ (by rw [e1']; rfl))]
          simp; omega
      · gi_wp2
        refine bodyPost_ret (results_none rfl _ _ _) rfl ?_
        exact ⟨⟨_, rfl⟩, .inr ⟨_, by rw [unhide HP]; exact ⟨pieces (cur.extract (a.length + 1) cur.size), by simp⟩, hx3⟩⟩

end Go.Proofs.Qxb6614997aFmt
