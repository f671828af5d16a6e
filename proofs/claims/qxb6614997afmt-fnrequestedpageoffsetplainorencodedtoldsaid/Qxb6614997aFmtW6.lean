import Derived.Test.Qxb6614997aFmtW5
namespace Go.Proofs.Qxb6614997aFmt
open Go.RowKit Go.Shelf
attribute [local go_sem] Oper.semAt_some

set_option maxHeartbeats 1000000 in
theorem splitSeq_any (q : ByteArray) (w : World) :
    Calls Tryf.prog 25 #[.string q, .string ⟨#[38]⟩] w fun e w' =>
      e = .returned (.func (.func 36) #[] #[.pointer (some ⟨w.heap.size + 1, 0, none⟩), .pointer (some ⟨w.heap.size, 0, none⟩), .pointer (some ⟨w.heap.size + 2, 0, none⟩)]) ∧
      w' = ((w.alloc (.cells #[.string q] 9)).alloc (.cells #[.string ⟨#[38]⟩] 9)).alloc (.cells #[.int .i64 0] 3) := by
  go_enter Tryf.func25, Tryf.ntmps25
  go_wp2
  go_ret
  exact ⟨rfl, rfl⟩

theorem piece_length : ∀ (l x : List UInt8), x ∈ Pl.pairs l → x.length ≤ l.length
  | [], x, h => by simp [Pl.pairs] at h; simp [h]
  | c :: r, x, h => by
    unfold Pl.pairs at h
    by_cases e : c = 38
    · simp [e] at h
      rcases h with rfl | h
      · simp
      · have := piece_length r x h; simp; omega
    · simp only [e, if_false] at h
      have ih := piece_length r
      cases hp : Pl.pairs r with
      | nil => exact absurd hp (Pl.pairs_ne r)
      | cons p ps =>
        rw [hp] at h ih
        simp at h
        rcases h with rfl | h
        · have := ih p (by simp); simp; omega
        · have := ih x (by simp [h]); simp; omega

theorem pieces_size (q x : ByteArray) (h : x ∈ pieces q) : x.size ≤ q.size := by
  unfold pieces at h
  rw [List.mem_map] at h
  obtain ⟨l, hl, rfl⟩ := h
  have := piece_length _ _ hl
  show l.toArray.size ≤ q.data.size
  simpa using this

theorem pieces_data (q : ByteArray) : (pieces q).map (fun p => p.data.toList) = Pl.pairs q.data.toList := by
  unfold pieces; rw [List.map_map]; conv => rhs; rw [← List.map_id (Pl.pairs q.data.toList)]
  exact List.map_congr_left (fun l _ => by simp)

/-- the pairs that have come are of another name. -/
def NoneNamed (nm : ByteArray) (pre : List ByteArray) : Prop := ∀ p ∈ pre, Pl.isNamed nm.data.toList p.data.toList = false

theorem first_none (nm q : ByteArray) (h : NoneNamed nm (pieces q)) : Pl.first nm.data.toList q.data.toList = none := by
  unfold Pl.first
  rw [← pieces_data, List.find?_eq_none]
  intro x hx
  rw [List.mem_map] at hx
  obtain ⟨p, hp, rfl⟩ := hx
  simp [h p hp]

theorem first_some (nm q x : ByteArray) (pre : List ByteArray) (h : NoneNamed nm pre) (hx : Pl.isNamed nm.data.toList x.data.toList = true) (hp : pre ++ [x] <+: pieces q) :
    Pl.first nm.data.toList q.data.toList = some x.data.toList := by
  unfold Pl.first
  obtain ⟨t, ht⟩ := hp
  rw [← pieces_data, ← ht]
  simp only [List.append_assoc, List.map_append, List.map_cons, List.cons_append, List.nil_append]
  rw [List.find?_append, List.find?_eq_none.2]
  · simp [hx]
  · intro y hy
    rw [List.mem_map] at hy
    obtain ⟨p, hp, rfl⟩ := hy
    simp [h p hp]

theorem below_others {W W' : World} (h : Below W.heap.size W W') : KeepsOthers W W' :=
  ⟨h.size, fun k o hk _ => by rw [← hk]; exact h.block k (Array.getElem?_eq_some_iff.1 hk).1⟩

/-- the world where the loop of 'first' begins. -/
theorem world6 (w : World) (q nm : ByteArray) : ∃ W0 : World,
    ((((((w.alloc (Obj.cells #[Value.string nm] 9)).alloc (Obj.cells #[Value.string { data := #[] }] 9)).alloc (Obj.cells #[Value.bool false] 4)).alloc (Obj.cells #[Value.string q] 9)).alloc (Obj.cells #[Value.string { data := #[38] }] 9)).alloc (Obj.cells #[Value.int IntKind.i64 0] 3)) = W0 ∧
    W0.heap.size = w.heap.size + 6 ∧ Below w.heap.size w W0 ∧
    W0.cell? ⟨w.heap.size, 0, none⟩ = some (.string nm) ∧
    W0.cell? ⟨w.heap.size + 1, 0, none⟩ = some (.string ⟨#[]⟩) ∧ W0.frozen? ⟨w.heap.size + 1, 0, none⟩ = false ∧
    W0.cell? ⟨w.heap.size + 1 + 1, 0, none⟩ = some (.bool false) ∧ W0.frozen? ⟨w.heap.size + 1 + 1, 0, none⟩ = false ∧
    W0.cell? ⟨w.heap.size + 1 + 1 + 1, 0, none⟩ = some (.string q) ∧ W0.frozen? ⟨w.heap.size + 1 + 1 + 1, 0, none⟩ = false ∧
    W0.cell? ⟨w.heap.size + 1 + 1 + 1 + 1, 0, none⟩ = some (.string ⟨#[38]⟩) ∧
    W0.cell? ⟨w.heap.size + 1 + 1 + 1 + 2, 0, none⟩ = some (.int .i64 0) := by
  refine ⟨_, rfl, ?_, ?_, ?_, ?_, ?_, ?_, ?_, ?_, ?_, ?_, ?_⟩
  · simp
  · exact ((((((Below.refl _ w).alloc (Nat.le_refl _) _).alloc (by simp) _).alloc (by simp; omega) _).alloc (by simp; omega) _).alloc (by simp; omega) _).alloc (by simp; omega) _
  all_goals go_simp

/-- what the loop's own cells hold between two rounds. -/
structure Between (w : World) (nm : ByteArray) (pre : List ByteArray) (W : World) : Prop where
  none_ : NoneNamed nm pre
  below : Below w.heap.size w W
  size : w.heap.size + 6 ≤ W.heap.size
  cn : W.cell? ⟨w.heap.size, 0, none⟩ = some (.string nm)
  cp : W.cell? ⟨w.heap.size + 1, 0, none⟩ = some (.string ⟨#[]⟩)
  fp : W.frozen? ⟨w.heap.size + 1, 0, none⟩ = false
  cb : W.cell? ⟨w.heap.size + 1 + 1, 0, none⟩ = some (.bool false)
  fb : W.frozen? ⟨w.heap.size + 1 + 1, 0, none⟩ = false

/-- .. and when a round has returned. -/
structure Found (w : World) (nm : ByteArray) (pre : List ByteArray) (W : World) : Prop where
  ex : ∃ pre0 x, pre = pre0 ++ [x] ∧ NoneNamed nm pre0 ∧ Pl.isNamed nm.data.toList x.data.toList = true ∧ W.cell? ⟨w.heap.size + 1, 0, none⟩ = some (.string x)
  below : Below w.heap.size w W
  cb : W.cell? ⟨w.heap.size + 1 + 1, 0, none⟩ = some (.bool true)

theorem below_of_from {w W W' : World} {B : Nat} {row : Option Nat} (h : Below w.heap.size w W) (hB : w.heap.size ≤ B) (hg : W.grownBy W' row) (hr : ∀ r, row = some r → B ≤ r ∧ ∃ o : Obj, W.heap[r]? = some o ∧ o.isCells = false) : Below w.heap.size w W' :=
  h.grown hg h.size (fun k e => Nat.le_trans hB (hr k e).1)

theorem between_own (w : World) (nm : ByteArray) (B : Nat) (hB : w.heap.size ≤ B) : OwnFrom B (Between w nm) := fun s W W' row h hg hr => by
  have hr' := fun r e => (hr r e).2
  exact ⟨h.none_, below_of_from h.below hB hg hr, Nat.le_trans h.size hg.size, cell_kept h.cn hg hr', cell_kept h.cp hg hr', (frozen_kept h.cp hg hr').trans h.fp, cell_kept h.cb hg hr', (frozen_kept h.cb hg hr').trans h.fb⟩

theorem found_own (w : World) (nm : ByteArray) (B : Nat) (hB : w.heap.size ≤ B) : OwnFrom B (Found w nm) := fun s W W' row h hg hr => by
  have hr' := fun r e => (hr r e).2
  obtain ⟨p0, x, e1, e2, e3, e4⟩ := h.ex
  exact ⟨⟨p0, x, e1, e2, e3, cell_kept e4 hg hr'⟩, below_of_from h.below hB hg hr, cell_kept h.cb hg hr'⟩

theorem between_set (w : World) (nm : ByteArray) (pre : List ByteArray) (W : World) (v : Value) (h : Between w nm pre W) : Between w nm pre (W.setCell ⟨w.heap.size + 1 + 1 + 1, 0, none⟩ v) where
  none_ := h.none_
  below := h.below.setCell (p := ⟨w.heap.size + 1 + 1 + 1, 0, none⟩) (by show w.heap.size ≤ w.heap.size + 1 + 1 + 1; omega) v
  size := Nat.le_trans h.size ((Below.refl 0 W).setCell (p := ⟨w.heap.size + 1 + 1 + 1, 0, none⟩) (Nat.zero_le _) v).size
  cn := by rw [cell_set_far _ _ _ _ _ _ (by omega)]; exact h.cn
  cp := by rw [cell_set_far _ _ _ _ _ _ (by omega)]; exact h.cp
  fp := by rw [World.frozen?_setCell]; exact h.fp
  cb := by rw [cell_set_far _ _ _ _ _ _ (by omega)]; exact h.cb
  fb := by rw [World.frozen?_setCell]; exact h.fb

theorem between_below (w : World) (nm : ByteArray) (pre : List ByteArray) (W W' : World) (h : Between w nm pre W) (hb : Below W.heap.size W W') : Between w nm pre W' :=
  have hz := h.size
  { none_ := h.none_
    below := h.below.trans (hb.mono (by omega))
    size := Nat.le_trans hz hb.size
    cn := (hb.cell (p := ⟨w.heap.size, 0, none⟩) (by show w.heap.size < _; omega)).trans h.cn
    cp := (hb.cell (p := ⟨w.heap.size + 1, 0, none⟩) (by show w.heap.size + 1 < _; omega)).trans h.cp
    fp := (hb.frozen (p := ⟨w.heap.size + 1, 0, none⟩) (by show w.heap.size + 1 < _; omega)).trans h.fp
    cb := (hb.cell (p := ⟨w.heap.size + 1 + 1, 0, none⟩) (by show w.heap.size + 1 + 1 < _; omega)).trans h.cb
    fb := (hb.frozen (p := ⟨w.heap.size + 1 + 1, 0, none⟩) (by show w.heap.size + 1 + 1 < _; omega)).trans h.fb }

theorem between_more (w : World) (nm : ByteArray) (pre : List ByteArray) (x : ByteArray) (W : World) (h : Between w nm pre W) (hx : Pl.isNamed nm.data.toList x.data.toList = false) : Between w nm (pre ++ [x]) W := by
  refine ⟨fun p hp => ?_, h.below, h.size, h.cn, h.cp, h.fp, h.cb, h.fb⟩
  rw [List.mem_append, List.mem_singleton] at hp
  rcases hp with hp | rfl
  · exact h.none_ p hp
  · exact hx

set_option maxRecDepth 100000 in
set_option maxHeartbeats 4000000 in
theorem first_any (hU : UnescSaid) (q nm : ByteArray) (w : World) (hs : q.size ≤ 16777216) (hE : Env w) :
    Calls Tryf.prog 19 #[.string q, .string nm] w fun e w' =>
      (∃ p : ByteArray, Pl.first nm.data.toList q.data.toList = some p.data.toList ∧ p.size ≤ q.size ∧ e = .returned (.tuple #[.string p, .bool true]) ∧ Below w.heap.size w w') ∨
      (Pl.first nm.data.toList q.data.toList = none ∧ e = .returned (.tuple #[.string ⟨#[]⟩, .bool false]) ∧ Below w.heap.size w w') := by
  have HE := hide hE
  have HU := hide hU
  clear hE hU
  refine (callsIn_wide (n := 4)).1 ?_
  refine callsIn_of_wp_marks Tryf.func19 rfl trivial ?_ rfl
  simp only [Tryf.ntmps19, List.size_toArray, List.length_cons, List.length_nil, Nat.reduceAdd, Nat.reduceSub, Array.replicate_succ, Array.replicate_zero, List.push_toArray, List.append_toArray, List.nil_append, List.cons_append]
  gi_wp2_with (refine ⟨trivial, ?_⟩; gi_at_call 25; refine (callsIn_wide.2 (splitSeq_any q _)).mono ?_; rintro e w' ⟨rfl, rfl⟩)
  obtain ⟨W0, hW0, hz0, hb0, c0, c1, f1, c2, f2, c3, f3, c4, c5⟩ := world6 w q nm
  rw [hW0]
  clear hW0
  have hgiv := split_gives (w.heap.size + 1 + 1 + 1) (w.heap.size + 1 + 1 + 1 + 1) (w.heap.size + 1 + 1 + 1 + 2) W0.heap.size q W0 hs (by omega) (by omega) (by omega) (by omega) (by omega) (Nat.le_refl _) c3 f3 c4 c5
  have hI0 : Between w nm [] W0 := ⟨(fun p hp => by cases hp), hb0, by omega, c0, c1, f1, c2, f2⟩
  refine range_gives (F := Fence.wide) (n := 4) rfl (by omega) (gf := 36) rfl trivial (enters_of Tryf.func36 (by kernel_rfl) rfl) (by show w.heap.size + 1 + 1 + 1 < _; omega) (Nat.le_refl _) hgiv
    (Between w nm) (Found w nm) (between_own w nm _ (by omega)) (found_own w nm _ (by omega)) (between_set w nm) hI0
    (fun x => { tmps := #[Value.string q, Value.string nm, undef, Value.pointer (some { block := w.heap.size, off := 0 }), Value.pointer (some { block := w.heap.size + 1, off := 0 }), Value.pointer (some { block := w.heap.size + 1 + 1, off := 0 }), Value.string x, undef, undef, Value.string q,
        Value.func (Fn.func 36) #[] #[Value.pointer (some { block := w.heap.size + 1 + 1 + 1 + 1, off := 0 }), Value.pointer (some { block := w.heap.size + 1 + 1 + 1, off := 0 }), Value.pointer (some { block := w.heap.size + 1 + 1 + 1 + 2, off := 0 })],
        Value.string x, undef, undef, undef, undef, undef, undef, undef, undef], defers := [] }) ?assign ?body ?done ?stop
  case assign =>
    intro l x W K hK
    gi_wp2
    exact hK
  case body =>
    rintro l pre x W hpx hI
    have hxs : x.size ≤ q.size := pieces_size q x (hpx.subset (by simp))
    have hEW : Env W := (unhide HE).below hI.below (Nat.le_refl _)
    have hcall := paramKey_any (unhide HU) x nm W (by omega) hEW
    have hsz := hI.size
    have HX := hide hpx
    have HI := hide hI
    have cn := hI.cn
    cases hn : Pl.isNamed nm.data.toList x.data.toList
    · rw [hn] at hcall
      have HC := hide hcall
      have HN := hide hn
      clear hcall hpx hI hEW hn
      gi_wp2_with (refine ⟨trivial, ?_⟩; gi_at_call 26; refine (CallsIn.inRound l (callsIn_wide.2 (unhide HC))).mono ?_; rintro e w' ⟨kk, rfl, hb⟩)
      have hB := between_below w nm pre W w' (unhide HI) hb
      exact ⟨below_others hb, hb.mono (by omega), between_more w nm pre x w' hB (unhide HN)⟩
    · rw [hn] at hcall
      have HC := hide hcall
      have HN := hide hn
      clear hcall hpx hI hEW hn
      gi_wp2_with (refine ⟨trivial, ?_⟩; gi_at_call 26; refine (CallsIn.inRound l (callsIn_wide.2 (unhide HC))).mono ?_; rintro e w' ⟨kk, rfl, hb⟩; have hB := between_below w nm pre W w' (unhide HI) hb; have cp := hB.cp; have fp := hB.fp; have cb := hB.cb; have fb := hB.fb; have HB := hide hB; have Hb := hide hb; clear hB hb)
      refine ⟨((below_others (unhide Hb)).trans (KeepsOthers.setCell _ _ _)).trans (KeepsOthers.setCell _ _ _), ⟨⟨pre, x, rfl, (unhide HB).none_, unhide HN, ?_⟩, ?_, ?_⟩⟩
      · rw [cell_set_far _ _ _ _ _ _ (by omega)]; exact World.cell?_setCell_same' _ _ _ (by rw [cp]; rfl)
      · exact ((unhide HB).below.setCell (p := ⟨w.heap.size + 1, 0, none⟩) (by show w.heap.size ≤ w.heap.size + 1; omega) _).setCell (p := ⟨w.heap.size + 1 + 1, 0, none⟩) (by show w.heap.size ≤ w.heap.size + 1 + 1; omega) _
      · exact World.cell?_setCell_same' _ _ _ (by rw [cell_set_far _ _ _ _ _ _ (by omega), cb]; rfl)
  case done =>
    rintro D W hD hI hK
    have cp := hI.cp
    have fp := hI.fp
    have cb := hI.cb
    have fb := hI.fb
    have HI := hide hI
    clear hI
    gi_wp2
    have hK' : ((W.setCell ⟨w.heap.size + 1, 0, none⟩ (.string ⟨#[]⟩)).setCell ⟨w.heap.size + 1 + 1, 0, none⟩ (.bool false)).heap[D]? = some (.deferred (some [])) :=
      ((KeepsOthers.setCell W ⟨w.heap.size + 1, 0, none⟩ (.string ⟨#[]⟩)).trans (KeepsOthers.setCell _ ⟨w.heap.size + 1 + 1, 0, none⟩ (.bool false))).same D _ hK rfl
    refine ⟨by simp, .inl ⟨_, _, rfl, run_takeDeferred hK', ?_⟩⟩
    have e1 : ((W.setCell ⟨w.heap.size + 1, 0, none⟩ (.string ⟨#[]⟩)).setCell ⟨w.heap.size + 1 + 1, 0, none⟩ (.bool false)).cell? ⟨w.heap.size + 1, 0, none⟩ = some (.string ⟨#[]⟩) := by
      rw [cell_set_far _ _ _ _ _ _ (by omega)]; exact World.cell?_setCell_same' _ _ _ (by rw [cp]; rfl)
    have e2 : ((W.setCell ⟨w.heap.size + 1, 0, none⟩ (.string ⟨#[]⟩)).setCell ⟨w.heap.size + 1 + 1, 0, none⟩ (.bool false)).cell? ⟨w.heap.size + 1 + 1, 0, none⟩ = some (.bool false) :=
      World.cell?_setCell_same' _ _ _ (by rw [cell_set_far _ _ _ _ _ _ (by omega), cb]; rfl)
    have h1 := cell_kept e1 (grownBy_putObj' _ D (.deferred none)) (fun r e => by cases e; exact ⟨_, hK', rfl⟩)
    have h2 := cell_kept e2 (grownBy_putObj' _ D (.deferred none)) (fun r e => by cases e; exact ⟨_, hK', rfl⟩)
    refine ⟨.tuple #[.string ⟨#[]⟩, .bool false], by simp [results, Tryf.f19, go_sem, h1, h2], .inr ⟨first_none nm q (unhide HI).none_, rfl, ?_⟩⟩
    exact (((unhide HI).below.setCell (p := ⟨w.heap.size + 1, 0, none⟩) (by show w.heap.size ≤ w.heap.size + 1; omega) _).setCell (p := ⟨w.heap.size + 1 + 1, 0, none⟩) (by show w.heap.size ≤ w.heap.size + 1 + 1; omega) _).trans (below_put _ D _ _ hK' (by omega))
  case stop =>
    rintro D pre W hD hpx hI hK
    obtain ⟨p0, x, rfl, hn0, hnx, cp⟩ := hI.ex
    have cb := hI.cb
    have HI := hide hI.below
    have HX := hide (first_some nm q x p0 hn0 hnx hpx)
    have hxs : x.size ≤ q.size := pieces_size q x (hpx.subset (by simp))
    clear hI hn0 hnx hpx
    gi_wp2
    refine ⟨by simp, .inl ⟨_, _, rfl, run_takeDeferred hK, ?_⟩⟩
    have h1 := cell_kept cp (grownBy_putObj' _ D (.deferred none)) (fun r e => by cases e; exact ⟨_, hK, rfl⟩)
    have h2 := cell_kept cb (grownBy_putObj' _ D (.deferred none)) (fun r e => by cases e; exact ⟨_, hK, rfl⟩)
    exact ⟨.tuple #[.string x, .bool true], by simp [results, Tryf.f19, go_sem, h1, h2], .inl ⟨x, unhide HX, hxs, rfl, (unhide HI).trans (below_put _ D _ _ hK (by omega))⟩⟩

end Go.Proofs.Qxb6614997aFmt
