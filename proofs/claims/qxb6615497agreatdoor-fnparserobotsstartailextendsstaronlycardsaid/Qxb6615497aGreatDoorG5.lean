import Derived.Test.Qxb6615497aGreatDoorW7
import Derived.Test.Qxb6615497aGreatDoorF6
/- strings.SplitSeq at the star: its closure, every string. -/
namespace Go.Proofs.Qxb6615497aGreatDoor
open Go.RowKit Go.Shelf
attribute [local go_sem] Oper.semAt_some

def pcs : List UInt8 → List (List UInt8)
  | [] => [[]]
  | c :: r => if c = 42 then [] :: pcs r else
      match pcs r with
      | [] => [[c]]
      | p :: ps => (c :: p) :: ps
theorem pcs_star : ∀ (a b : List UInt8), (∀ c ∈ a, c ≠ 42) → pcs (a ++ 42 :: b) = a :: pcs b
  | [], b, _ => by simp [pcs]
  | c :: a, b, h => by
    have hc := h c (by simp)
    show pcs (c :: (a ++ 42 :: b)) = _
    rw [pcs]
    simp only [hc, if_false]
    rw [pcs_star a b (fun d hd => h d (by simp [hd]))]
theorem pcs_none : ∀ (a : List UInt8), (∀ c ∈ a, c ≠ 42) → pcs a = [a]
  | [], _ => by simp [pcs]
  | c :: a, h => by
    have hc := h c (by simp)
    rw [pcs]
    simp only [hc, if_false]
    rw [pcs_none a (fun d hd => h d (by simp [hd]))]
theorem pcs_len : ∀ l : List UInt8, (pcs l).length ≤ l.length + 1
  | [] => by simp [pcs]
  | c :: r => by
    have ih := pcs_len r
    rw [pcs]
    split
    · simp; omega
    · split
      · simp
      · rename_i h
        rw [h] at ih
        simp at ih ⊢
        omega
theorem pcs_each : ∀ l : List UInt8, ∀ p ∈ pcs l, p.length ≤ l.length
  | [], p, h => by simp [pcs] at h; subst h; simp
  | c :: r, p, h => by
    have ih := pcs_each r
    rw [pcs] at h
    split at h
    · rcases List.mem_cons.1 h with rfl | h
      · simp
      · have := ih p h; simp; omega
    · split at h
      · simp at h; subst h; simp
      · rename_i q qs e
        rcases List.mem_cons.1 h with rfl | h
        · have := ih q (by rw [e]; simp); simp; omega
        · have := ih p (by rw [e]; simp [h]); simp; omega

theorem idx_split (c : UInt8) : ∀ (l : List UInt8), (Lib.indexByte l c = -1 ∧ (∀ d ∈ l, d ≠ c)) ∨ (∃ a b, l = a ++ c :: b ∧ (∀ d ∈ a, d ≠ c) ∧ Lib.indexByte l c = (a.length : Int))
  | [] => .inl ⟨rfl, by simp⟩
  | d :: r => by
    by_cases e : d = c
    · subst e
      exact .inr ⟨[], r, rfl, by simp, by simp [Lib.indexByte]⟩
    · rcases idx_split c r with ⟨h, hn⟩ | ⟨a, b, rfl, hn, h⟩
      · refine .inl ⟨by simp [Lib.indexByte, e, h], ?_⟩
        intro x hx
        simp at hx
        rcases hx with rfl | hx
        · exact e
        · exact hn x hx
      · refine .inr ⟨d :: a, b, rfl, ?_, ?_⟩
        · intro x hx
          simp at hx
          rcases hx with rfl | hx
          · exact e
          · exact hn x hx
        · have hne : ((a.length : Int) == -1) = false := by simp
          have he : (d == c) = false := by simpa using e
          simp [Lib.indexByte, he, h, hne]

def pieces (s : ByteArray) : List ByteArray := (pcs s.data.toList).map fun l => ⟨l.toArray⟩
def leftIn (a : Addr) (w : World) : Nat := match w.cell? a with
  | some (.string c) => c.size
  | _ => 0
theorem leftIn_eq {a : Addr} {w : World} {c : ByteArray} (h : w.cell? a = some (.string c)) : leftIn a w = c.size := by
  unfold leftIn; rw [h]
theorem bytes_eq {a b : ByteArray} (h : a.data.toList = b.data.toList) : a = b := by
  cases a; cases b; simp at h; simp [h]
theorem ext_toList (s : ByteArray) (i j : Nat) : (s.extract i j).data.toList = (s.data.toList.drop i).take (j - i) := by
  rw [Lib.extract_data]
theorem pieces_none (cur : ByteArray) (h : ∀ d ∈ cur.data.toList, d ≠ 42) : pieces cur = [cur] := by
  unfold pieces; rw [pcs_none _ h]
  simp
theorem pieces_star (cur : ByteArray) (a b : List UInt8) (h : cur.data.toList = a ++ 42 :: b) (hna : ∀ d ∈ a, d ≠ 42) :
    pieces cur = cur.extract 0 a.length :: pieces (cur.extract (a.length + 1) cur.size) := by
  have e1 : (cur.extract 0 a.length).data.toList = a := by rw [ext_toList, h]; simp
  have hl : cur.size = a.length + 1 + b.length := by have := congrArg List.length h; simp at this; omega
  have e2 : (cur.extract (a.length + 1) cur.size).data.toList = b := by rw [ext_toList, h, hl]; simp
  unfold pieces
  rw [e2, h, pcs_star a b hna]
  simp only [List.map_cons]
  congr 1
  exact bytes_eq (by rw [e1])
theorem pieces_len (s : ByteArray) : (pieces s).length ≤ s.size + 1 := by
  unfold pieces
  rw [List.length_map]
  have := pcs_len s.data.toList
  rw [Array.length_toList] at this
  exact this
theorem pieces_each (s : ByteArray) : ∀ p ∈ pieces s, p.size ≤ s.size := by
  intro p hp
  unfold pieces at hp
  obtain ⟨l, hl, rfl⟩ := List.mem_map.1 hp
  have := pcs_each _ l hl
  rw [Array.length_toList] at this
  show l.toArray.size ≤ s.data.size
  rw [List.size_toArray]
  exact this

/-- the three boxes of the closure. -/
def boxes (Bs Bsep Bsv : Nat) : Addr → Prop := fun p => p = ⟨Bs, 0, none⟩ ∨ p = ⟨Bsep, 0, none⟩ ∨ p = ⟨Bsv, 0, none⟩

set_option maxRecDepth 100000 in
set_option maxHeartbeats 2000000 in
theorem split_gives (Bs Bsep Bsv : Nat) (s : ByteArray) (w : World) (hs : s.size ≤ 16777216) (h1 : Bs < w.heap.size) (h2 : Bsep < w.heap.size) (h3 : Bsv < w.heap.size) (hne1 : Bs ≠ Bsep) (hne2 : Bs ≠ Bsv)
    (c1 : w.cell? ⟨Bs, 0, none⟩ = some (.string s)) (f1 : w.frozen? ⟨Bs, 0, none⟩ = false) (c2 : w.cell? ⟨Bsep, 0, none⟩ = some (.string ⟨#[42]⟩)) (c3 : w.cell? ⟨Bsv, 0, none⟩ = some (.int .i64 0)) :
    Gives Fence.wide 3 Tryz.prog 94 #[.pointer (some ⟨Bsep, 0, none⟩), .pointer (some ⟨Bs, 0, none⟩), .pointer (some ⟨Bsv, 0, none⟩)] Value.string ⟨Bs, 0, none⟩ (boxes Bs Bsep Bsv) (pieces s) w := by
  intro l J Jx W hW hJb hY h0
  have d1 := (hW.cell (p := ⟨Bs, 0, none⟩) (by show Bs < _; omega)).trans c1
  have g1 := (hW.frozen (p := ⟨Bs, 0, none⟩) (by show Bs < _; omega)).trans f1
  have d2 := (hW.cell (p := ⟨Bsep, 0, none⟩) (by show Bsep < _; omega)).trans c2
  have d3 := (hW.cell (p := ⟨Bsv, 0, none⟩) (by show Bsv < _; omega)).trans c3
  refine callsIn_of_wp Tryz.func94 rfl trivial ?_ rfl
  simp only [Tryz.ntmps94, List.size_toArray, List.length_cons, List.length_nil, Nat.reduceAdd, Nat.reduceSub, Array.replicate_succ, Array.replicate_zero, List.push_toArray, List.append_toArray, List.nil_append, List.cons_append]
  gi_wp2
  gi_loopw [7] (fun _ wr => ∃ (pre : List ByteArray) (cur : ByteArray), cur.size ≤ s.size ∧ wr.cell? ⟨Bs, 0, none⟩ = some (.string cur) ∧ wr.frozen? ⟨Bs, 0, none⟩ = false ∧ wr.cell? ⟨Bsep, 0, none⟩ = some (.string ⟨#[42]⟩) ∧ wr.cell? ⟨Bsv, 0, none⟩ = some (.int .i64 0) ∧ pieces s = pre ++ pieces cur ∧ J pre wr)
    (fun _ wr => leftIn ⟨Bs, 0, none⟩ wr)
  case atStart => exact ⟨[], s, Nat.le_refl _, d1, g1, d2, d3, rfl, h0⟩
  case round =>
    obtain ⟨pre, cur, hsz, e1, k1, e2, e3, hp, hJ⟩ := hrel
    have hI := fun w => Tryz.strings_Index_one cur 42 w
    rcases idx_split 42 cur.data.toList with ⟨hi, hno⟩ | ⟨a, b, hab, hna, hi⟩
    · rw [hi] at hI
      have HI := hide hI
      have HP := hide hp
      have HN := hide hno
      clear hI hi hp hno
      obtain ⟨fn, tmps, assign, body, hy, hR⟩ := hY pre cur wr (by rw [unhide HP, pieces_none cur (unhide HN)]; exact List.prefix_refl _) hJ
      gi_wp2_with (refine ⟨trivial, ?_⟩; gi_at_call 95; refine (callsIn_wide.2 (unhide HI _)).mono ?_; rintro e w' ⟨rfl, rfl⟩)
      refine hR.mono ?_
      rintro e W3 (⟨rfl, hJ3, hk3⟩ | ⟨rfl, hx3⟩)
      · gi_wp2
        go_end0
        exact ⟨⟨_, rfl⟩, .inl (by rw [unhide HP, pieces_none cur (unhide HN)]; exact hJ3)⟩
      · gi_wp2
        go_end0
        exact ⟨⟨_, rfl⟩, .inr ⟨_, by rw [unhide HP, pieces_none cur (unhide HN)]; exact List.prefix_refl _, hx3⟩⟩
    · rw [hi] at hI
      have HI := hide hI
      have HP := hide (hp.trans (congrArg (pre ++ ·) (pieces_star cur a b hab hna)))
      have hlen : a.length < cur.size := by have := congrArg List.length hab; simp at this; omega
      clear hI hi hp hab hna
      have hl0 : ¬ ((a.length : Int) < 0) := by omega
      have hd0 : decide ((a.length : Int) < 0) = false := decide_eq_false hl0
      obtain ⟨fn, tmps, assign, body, hy, hR⟩ := hY pre (cur.extract 0 a.length) wr (by rw [unhide HP]; exact ⟨pieces (cur.extract (a.length + 1) cur.size), by simp⟩) hJ
      gi_wp2_with (refine ⟨trivial, ?_⟩; gi_at_call 95; refine (callsIn_wide.2 (unhide HI _)).mono ?_; rintro e w' ⟨rfl, rfl⟩)
      refine hR.mono ?_
      rintro e W3 (⟨rfl, hJ3, hk3⟩ | ⟨rfl, hx3⟩)
      · have e1' := (hk3 ⟨Bs, 0, none⟩ (.inl rfl)).1.trans e1
        have k1' := (hk3 ⟨Bs, 0, none⟩ (.inl rfl)).2.trans k1
        have e2' := (hk3 ⟨Bsep, 0, none⟩ (.inr (.inl rfl))).1.trans e2
        have e3' := (hk3 ⟨Bsv, 0, none⟩ (.inr (.inr rfl))).1.trans e3
        have hm := leftIn_eq e1
        have HM := hide hm
        clear hm e1 k1 e2 e3
        gi_wp2
        go_roundw
        case rel =>
          refine ⟨pre ++ [cur.extract 0 a.length], cur.extract (a.length + 1) cur.size, by simp; omega, World.cell?_setCell_same' _ _ _ (by rw [e1']; rfl), by rw [World.frozen?_setCell]; exact k1', ?_, ?_, by rw [unhide HP]; simp, hJb _ _ _ hJ3⟩
          · rw [cell_set_far _ _ _ _ _ _ hne1]; exact e2'
          · rw [cell_set_far _ _ _ _ _ _ hne2]; exact e3'
        case measure =>
          rw [unhide HM, leftIn_eq (World.cell?_setCell_same' _ _ _ (by rw [e1']; rfl))]
          simp; omega
      · gi_wp2
        refine bodyPost_ret (results_none rfl _ _ _) rfl ?_
        exact ⟨⟨_, rfl⟩, .inr ⟨_, by rw [unhide HP]; exact ⟨pieces (cur.extract (a.length + 1) cur.size), by simp⟩, hx3⟩⟩
end Go.Proofs.Qxb6615497aGreatDoor
