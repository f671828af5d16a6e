import Derived.Test.Qxb6615497aGreatDoorG14
/- (*robotsGroup).add at every group. -/
namespace Go.Proofs.Qxb6615497aGreatDoor
open Go Go.RowKit Go.Shelf
attribute [local go_sem] Oper.semAt_some

def kAllow : ByteArray := ⟨#[97, 108, 108, 111, 119]⟩
def kDis : ByteArray := ⟨#[100, 105, 115, 97, 108, 108, 111, 119]⟩
def kCrawl : ByteArray := ⟨#[99, 114, 97, 119, 108, 45, 100, 101, 108, 97, 121]⟩

set_option maxRecDepth 100000 in
set_option maxHeartbeats 4000000 in
theorem add_allow {base S : Nat} {rs : List (Bool × ByteArray)} {d : Int} {row : Value} {W : World} (h : Grp base S rs d row W) (hSb : S < base) (hbW : base ≤ W.heap.size) (hlen : rs.length ≤ 16777216) (v : ByteArray) (hv : v.toList.isEmpty = false) (hv2 : v.size ≤ 16777214) :
    Calls Tryz.prog 31 #[.pointer (some ⟨S, 0, none⟩), .string ⟨#[97, 108, 108, 111, 119]⟩, .string v] W fun e W' => e = .returned (.tuple #[]) ∧ ∃ row' : Value, Grp base S (rs ++ [(true, v)]) d row' W' ∧ Touch S row.ownBlock W W' ∧ (row'.ownBlock = row.ownBlock ∨ ∀ g, row'.ownBlock = some g → W.heap.size ≤ g) := by
  have HC := hide (fun W => compilePattern_any v hv2 W)
  have HL := hide (fun w2 p pn pc an len => rule_added (w2 := w2) h hSb hbW hlen true v p pn pc an len)
  have hS : S < W.heap.size := block_lt_of_cell h.c0
  have c0 := h.c0
  have f0 := h.f0
  clear h
  go_enter Tryz.func31, Tryz.ntmps31
  go_wp2
  go_region_with (go_at_call 24; refine (unhide HC _).mono ?_; rintro e w2 ⟨⟨p, pn, pc, an, len, rfl⟩, hb2⟩; obtain ⟨q2, hlt2, g, cap, w3, hrun, j3, jf3, HM⟩ := unhide HL w2 p pn pc an len hb2; simp [go_sem] at hrun)
  all_goals
    clear hrun
    go_end0
    refine ⟨rfl, _, (unhide HM).1, (unhide HM).2.1, ?_⟩
    rcases (unhide HM).2.2 with e | e
    · exact .inl e.symm
    · right
      intro g' hg'
      injection hg' with hg'
      subst hg'
      exact e

set_option maxRecDepth 100000 in
set_option maxHeartbeats 4000000 in
theorem add_dis {base S : Nat} {rs : List (Bool × ByteArray)} {d : Int} {row : Value} {W : World} (h : Grp base S rs d row W) (hSb : S < base) (hbW : base ≤ W.heap.size) (hlen : rs.length ≤ 16777216) (v : ByteArray) (hv : v.toList.isEmpty = false) (hv2 : v.size ≤ 16777214) :
    Calls Tryz.prog 31 #[.pointer (some ⟨S, 0, none⟩), .string ⟨#[100, 105, 115, 97, 108, 108, 111, 119]⟩, .string v] W fun e W' => e = .returned (.tuple #[]) ∧ ∃ row' : Value, Grp base S (rs ++ [(false, v)]) d row' W' ∧ Touch S row.ownBlock W W' ∧ (row'.ownBlock = row.ownBlock ∨ ∀ g, row'.ownBlock = some g → W.heap.size ≤ g) := by
  have HC := hide (fun W => compilePattern_any v hv2 W)
  have HL := hide (fun w2 p pn pc an len => rule_added (w2 := w2) h hSb hbW hlen false v p pn pc an len)
  have hS : S < W.heap.size := block_lt_of_cell h.c0
  have c0 := h.c0
  have f0 := h.f0
  clear h
  go_enter Tryz.func31, Tryz.ntmps31
  go_wp2
  go_region_with (go_at_call 24; refine (unhide HC _).mono ?_; rintro e w2 ⟨⟨p, pn, pc, an, len, rfl⟩, hb2⟩; obtain ⟨q2, hlt2, g, cap, w3, hrun, j3, jf3, HM⟩ := unhide HL w2 p pn pc an len hb2; simp [go_sem] at hrun)
  all_goals
    clear hrun
    go_end0
    refine ⟨rfl, _, (unhide HM).1, (unhide HM).2.1, ?_⟩
    rcases (unhide HM).2.2 with e | e
    · exact .inl e.symm
    · right
      intro g' hg'
      injection hg' with hg'
      subst hg'
      exact e

set_option maxRecDepth 100000 in
set_option maxHeartbeats 4000000 in
theorem add_empty (S : Nat) (v k : ByteArray) (hk : k = ⟨#[97, 108, 108, 111, 119]⟩ ∨ k = ⟨#[100, 105, 115, 97, 108, 108, 111, 119]⟩) (W : World) (hv : v.toList.isEmpty = true) :
    Calls Tryz.prog 31 #[.pointer (some ⟨S, 0, none⟩), .string k, .string v] W fun e W' => e = .returned (.tuple #[]) ∧ W' = W := by
  rcases hk with rfl | rfl
  · go_enter Tryz.func31, Tryz.ntmps31
    go_wp2
    refine bodyPost_ret (v := .tuple #[]) (results_none rfl _ _ _) rfl ?_
    exact ⟨rfl, rfl⟩
  · go_enter Tryz.func31, Tryz.ntmps31
    go_wp2
    refine bodyPost_ret (v := .tuple #[]) (results_none rfl _ _ _) rfl ?_
    exact ⟨rfl, rfl⟩

set_option maxRecDepth 100000 in
set_option maxHeartbeats 4000000 in
theorem add_crawl_no (S : Nat) (v : ByteArray) (W : World) (z : Int)
    (hC : Calls Tryz.prog 25 #[.string v] W fun e w' => e = .returned (.tuple #[.int .i64 z, .bool false]) ∧ Below W.heap.size W w') :
    Calls Tryz.prog 31 #[.pointer (some ⟨S, 0, none⟩), .string ⟨#[99, 114, 97, 119, 108, 45, 100, 101, 108, 97, 121]⟩, .string v] W fun e W' => e = .returned (.tuple #[]) ∧ Below W.heap.size W W' := by
  have HC := hide hC
  clear hC
  go_enter Tryz.func31, Tryz.ntmps31
  go_wp2_with (go_at_call 25; refine (unhide HC).mono ?_; rintro e w2 ⟨rfl, hb2⟩)
  refine bodyPost_ret (v := .tuple #[]) (results_none rfl _ _ _) rfl ?_
  exact ⟨rfl, hb2⟩

set_option maxRecDepth 100000 in
set_option maxHeartbeats 4000000 in
theorem add_crawl_yes (S : Nat) (v : ByteArray) (W : World) (z d : Int) (c1 : W.cell? ⟨S, 1, none⟩ = some (.int .i64 d)) (f1 : W.frozen? ⟨S, 1, none⟩ = false)
    (hC : Calls Tryz.prog 25 #[.string v] W fun e w' => e = .returned (.tuple #[.int .i64 z, .bool true]) ∧ Below W.heap.size W w') :
    Calls Tryz.prog 31 #[.pointer (some ⟨S, 0, none⟩), .string ⟨#[99, 114, 97, 119, 108, 45, 100, 101, 108, 97, 121]⟩, .string v] W fun e W' => e = .returned (.tuple #[]) ∧ ∃ w2, Below W.heap.size W w2 ∧ W' = w2.setCell ⟨S, 1, none⟩ (.int .i64 (max d z)) := by
  have HC := hide hC
  clear hC
  have hS : S < W.heap.size := block_lt_of_cell c1
  go_enter Tryz.func31, Tryz.ntmps31
  go_wp2_with (go_at_call 25; refine (unhide HC).mono ?_; rintro e w2 ⟨rfl, hb2⟩; have k1 := (hb2.cell (p := ⟨S, 1, none⟩) hS).trans c1; have kf1 := (hb2.frozen (p := ⟨S, 1, none⟩) hS).trans f1)
  refine bodyPost_ret (v := .tuple #[]) (results_none rfl _ _ _) rfl ?_
  exact ⟨rfl, w2, hb2, rfl⟩

/-- what add does to a group. -/
def addG (k v : ByteArray) (g : List (Bool × ByteArray) × Int) : List (Bool × ByteArray) × Int :=
  if k == kCrawl then (g.1, if (crawlF v).2 then max g.2 (crawlF v).1 else g.2)
  else if v.toList.isEmpty then g else (g.1 ++ [(k == kAllow, v)], g.2)

theorem below_touch {S : Nat} {row : Option Nat} {W w2 : World} {v : Value} {i : Nat} (h : Below W.heap.size W w2) : Touch S row W (w2.setCell ⟨S, i, none⟩ v) :=
  ⟨h.os, h.tape, h.output, by have := h.size; simp; omega, fun k hk hne _ => by rw [heap_set_far _ _ _ _ _ hne]; exact h.block k hk⟩

theorem add_any {base S : Nat} {g : List (Bool × ByteArray) × Int} {row : Value} {W : World} (k v : ByteArray) (hk : k = kAllow ∨ k = kDis ∨ k = kCrawl) (h : Grp base S g.1 g.2 row W) (hSb : S < base) (hbW : base ≤ W.heap.size) (hlen : g.1.length ≤ 16777216) (hv2 : v.size ≤ 1048576) (hT : FTabs W) (hR : RangeVar W) :
    Calls Tryz.prog 31 #[.pointer (some ⟨S, 0, none⟩), .string k, .string v] W fun e W' => e = .returned (.tuple #[]) ∧ ∃ row' : Value, Grp base S (addG k v g).1 (addG k v g).2 row' W' ∧ Touch S row.ownBlock W W' ∧ (row'.ownBlock = row.ownBlock ∨ ∀ g, row'.ownBlock = some g → W.heap.size ≤ g) := by
  rcases hk with rfl | rfl | rfl
  · have e1 : (kAllow == kCrawl) = false := by decide
    have e2 : (kAllow == kAllow) = true := by decide
    unfold addG
    rw [e1, e2]
    simp only [Bool.false_eq_true, if_false]
    cases hv : v.toList.isEmpty with
    | true =>
      refine (add_empty S v kAllow (.inl rfl) W hv).mono ?_
      rintro e W' ⟨rfl, rfl⟩
      exact ⟨rfl, row, h, Touch.of_below (Below.refl _ _), .inl rfl⟩
    | false => exact add_allow h hSb hbW hlen v hv (by omega)
  · have e1 : (kDis == kCrawl) = false := by decide
    have e2 : (kDis == kAllow) = false := by decide
    unfold addG
    rw [e1, e2]
    simp only [Bool.false_eq_true, if_false]
    cases hv : v.toList.isEmpty with
    | true =>
      refine (add_empty S v kDis (.inr rfl) W hv).mono ?_
      rintro e W' ⟨rfl, rfl⟩
      exact ⟨rfl, row, h, Touch.of_below (Below.refl _ _), .inl rfl⟩
    | false => exact add_dis h hSb hbW hlen v hv (by omega)
  · have e1 : (kCrawl == kCrawl) = true := by decide
    have hC := crawl_any v hv2 W hT hR
    unfold addG
    rw [e1]
    simp only [if_true]
    generalize crawlF v = cf at hC ⊢
    obtain ⟨z, ok⟩ := cf
    cases ok with
    | false =>
      refine (add_crawl_no S v W z hC).mono ?_
      rintro e W' ⟨rfl, hb⟩
      exact ⟨rfl, row, h.below hb, Touch.of_below hb, .inl rfl⟩
    | true =>
      refine (add_crawl_yes S v W z g.2 h.c1 h.f1 hC).mono ?_
      rintro e W' ⟨rfl, w2, hb, rfl⟩
      have h2 := h.below hb
      obtain ⟨xs, ho, hx⟩ := h2.own
      refine ⟨rfl, row, ⟨?_, ?_, ?_, ?_, xs, row_set ho _ _ _ hSb, hx⟩, below_touch hb, .inl rfl⟩
      · rw [World.cell?_setCell_other _ _ _ _ (by simp)]; exact h2.c0
      · rw [World.frozen?_setCell]; exact h2.f0
      · exact World.cell?_setCell_same' _ _ _ (by rw [h2.c1]; rfl)
      · rw [World.frozen?_setCell]; exact h2.f1
end Go.Proofs.Qxb6615497aGreatDoor
