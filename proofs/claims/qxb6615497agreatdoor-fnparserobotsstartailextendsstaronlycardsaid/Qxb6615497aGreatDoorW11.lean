import Derived.Test.Qxb6615497aGreatDoorW10
import Derived.Laws.IdiomStrings
/- ZZparseRobots, ZZgroupLen, ZZgroupRule; the law's walk. -/
namespace Go.Proofs.Qxb6615497aGreatDoor
open Go.RowKit

theorem belowDrewN {n : Nat} {w w' : World} (h : Below n w w') : ∀ q, Below n w (w'.drewN q)
  | 0 => h
  | q + 1 => (belowDrewN h q).drew

set_option maxHeartbeats 1000000 in
theorem groupLen_any (p : Option Addr) (l k : Nat) (d : Int) (w : World) :
    Calls Tryz.prog 7 #[.agg #[.slice p l k, .int .i64 d]] w fun e w' => e = .returned (.int .i64 l) ∧ Below w.heap.size w w' := by
  go_enter Tryz.func7, Tryz.ntmps7
  go_wp2
  go_ret
  exact ⟨rfl, (Below.refl _ w).alloc (Nat.le_refl _) _⟩

set_option maxHeartbeats 1000000 in
theorem groupRule_any (g cap : Nat) (d : Int) (al : Bool) (v : ByteArray) (w : World) (h0 : w.cell? ⟨g, 0, none⟩ = some (.bool al)) (h1 : w.cell? ⟨g, 1, none⟩ = some (.string v)) :
    Calls Tryz.prog 8 #[.agg #[.slice (some ⟨g, 0, none⟩) 1 cap, .int .i64 d], .int .i64 0] w fun e w' => e = .returned (.tuple #[.bool al, .string v]) ∧ Below w.heap.size w w' := by
  have hlt : g < w.heap.size := block_lt_of_cell h0
  go_enter Tryz.func8, Tryz.ntmps8
  go_wp2
  go_quiet (fail)
  go_wp2
  go_ret2
  exact ⟨rfl, belowDrewN ((Below.refl _ w).alloc (Nat.le_refl _) _) _⟩

set_option maxHeartbeats 1000000 in
/-- ZZparseRobots hands on what parseRobots gives. -/
theorem zzParse_of (b n c : Nat) (w : World) (R : Option Addr → Nat → Nat → World → Prop)
    (h : Calls Tryz.prog 18 #[.slice (some ⟨b, 0, none⟩) n c, .string botB] (w.alloc (.cells #[.slice none 0 0, .int .i64 0] 26)) fun e w' => ∃ p l k, e = .returned (.agg #[.slice p l k, .int .i64 0]) ∧ R p l k w' ∧ Below (w.heap.size + 1) (w.alloc (.cells #[.slice none 0 0, .int .i64 0] 26)) w') :
    Calls Tryz.prog 6 #[.slice (some ⟨b, 0, none⟩) n c, .string botB] w fun e w' => ∃ p l k w1, e = .returned (.agg #[.slice p l k, .int .i64 0]) ∧ R p l k w1 ∧ (∀ a : Addr, a.block ≠ w.heap.size → w'.cell? a = w1.cell? a) ∧ Below w.heap.size w w' := by
  have H := hide h
  clear h
  obtain ⟨w0, hw0⟩ : ∃ w0, w.alloc (.cells #[.slice none 0 0, .int .i64 0] 26) = w0 := ⟨_, rfl⟩
  have hb0 : Below w.heap.size w w0 := by rw [← hw0]; exact (Below.refl _ w).alloc (Nat.le_refl _) _
  have hz : w0.heap.size = w.heap.size + 1 := by rw [← hw0]; simp
  have k0 : w0.cell? ⟨w.heap.size, 0, none⟩ = some (.slice none 0 0) := by rw [← hw0]; simp
  have k1 : w0.cell? ⟨w.heap.size, 1, none⟩ = some (.int .i64 0) := by rw [← hw0]; simp
  have f0 : w0.frozen? ⟨w.heap.size, 0, none⟩ = false := by rw [← hw0]; simp
  have f1 : w0.frozen? ⟨w.heap.size, 1, none⟩ = false := by rw [← hw0]; simp
  rw [hw0] at H
  have HK := hide (And.intro hb0 (And.intro hz (And.intro k0 (And.intro k1 (And.intro f0 f1)))))
  clear hb0 hz k0 k1 f0 f1
  go_enter Tryz.func6, Tryz.ntmps6
  go_wp2_with (go_at_call 18; refine (unhide H).mono ?_; rintro e w1 ⟨p, l, k, rfl, hR, hb1⟩; obtain ⟨hb0, hz, k0, k1, f0, f1⟩ := unhide HK; have j0 := (hb1.cell (p := ⟨w.heap.size, 0, none⟩) (Nat.lt_succ_self _)).trans k0; have j1 := (hb1.cell (p := ⟨w.heap.size, 1, none⟩) (Nat.lt_succ_self _)).trans k1; have i0 := (hb1.frozen (p := ⟨w.heap.size, 0, none⟩) (Nat.lt_succ_self _)).trans f0; have i1 := (hb1.frozen (p := ⟨w.heap.size, 1, none⟩) (Nat.lt_succ_self _)).trans f1; have HB := hide (hb0.trans (hb1.mono (Nat.le_succ _))); clear hb0 hz k0 k1 f0 f1 hb1)
  have c0 : ((w1.setCell ⟨w.heap.size, 0, none⟩ (.slice p l k)).setCell ⟨w.heap.size, 1, none⟩ (.int .i64 0)).cell? ⟨w.heap.size, 0, none⟩ = some (.slice p l k) := by
    rw [World.cell?_setCell_other _ _ _ _ (by simp), World.cell?_setCell_same' _ _ _ (by rw [j0]; rfl)]
  have c1 : ((w1.setCell ⟨w.heap.size, 0, none⟩ (.slice p l k)).setCell ⟨w.heap.size, 1, none⟩ (.int .i64 0)).cell? ⟨w.heap.size, 1, none⟩ = some (.int .i64 0) :=
    World.cell?_setCell_same' _ _ _ (by rw [World.cell?_setCell_other _ _ _ _ (by simp), j1]; rfl)
  have hfar : ∀ a : Addr, a.block ≠ w.heap.size → ((w1.setCell ⟨w.heap.size, 0, none⟩ (.slice p l k)).setCell ⟨w.heap.size, 1, none⟩ (.int .i64 0)).cell? a = w1.cell? a := fun a ha => by
    rw [World.cell?_setCell_other _ _ _ _ (by rintro rfl; exact ha rfl), World.cell?_setCell_other _ _ _ _ (by rintro rfl; exact ha rfl)]
  have hbE : Below w.heap.size w ((w1.setCell ⟨w.heap.size, 0, none⟩ (.slice p l k)).setCell ⟨w.heap.size, 1, none⟩ (.int .i64 0)) :=
    ((unhide HB).setCell (p := ⟨w.heap.size, 0, none⟩) (Nat.le_refl _) _).setCell (p := ⟨w.heap.size, 1, none⟩) (Nat.le_refl _) _
  generalize ((w1.setCell ⟨w.heap.size, 0, none⟩ (.slice p l k)).setCell ⟨w.heap.size, 1, none⟩ (.int .i64 0)) = wE at c0 c1 hfar hbE ⊢
  exact bodyPost_ret (v := .agg #[.slice p l k, .int .i64 0]) (by simp [results, Tryz.results6, go_sem, c0, c1]) rfl ⟨p, l, k, w1, rfl, hR, hfar, hbE⟩

/-- what the body's conversion lays. -/
theorem bytes_laid (s : ByteArray) (w : World) : ∃ (cap : Nat) (W1 : World), (convert 9 22 (.string s)).run Tryz.prog w = .ok (.slice (some ⟨w.heap.size, 0, none⟩) s.size cap) W1 ∧ s.size ≤ cap ∧ Below w.heap.size w W1 ∧
    ∀ j, j < s.size → W1.cell? ⟨w.heap.size, j, none⟩ = some (.int .u8 (s.get! j).toNat) := by
  refine ⟨_, _, run_bytes_of_string (P := Tryz.prog) w 9 22 5 s Tryz.underlying9 Tryz.underlying22 Tryz.underlying5, grownCap_ge _ _ _ _, (Below.refl _ w).drew.alloc (Nat.le_refl _) _, fun j hj => ?_⟩
  have e := World.cell?_alloc_mark w.drew (bytesRow s (grownCap w s.size 0 5)) 5 ((bytesRow s (grownCap w s.size 0 5)).size, (bytesRow s (grownCap w s.size 0 5)).size + 1) j
  refine e.trans ?_
  rw [bytesRow_at s _ j hj]
  have hg : s.data[j]'hj = s.get! j := by
    cases s with
    | mk d =>
      have hj' : j < d.size := hj
      show d[j] = d[j]!
      simp [hj']
  rw [hg]

theorem body_cat (r : Int) : (⟨#[85, 115, 101, 114, 45, 97, 103, 101, 110, 116, 58, 32, 42]⟩ ++ Utf8.encode r) ++ ⟨#[68, 105, 115, 97, 108, 108, 111, 119, 58, 32, 47, 120]⟩ = bodyB r := by
  have h : ∀ a b : ByteArray, a.data.toList = b.data.toList → a = b := fun a b h => by
    cases a; cases b; simp at h; simp [h]
  apply h
  simp [bodyB, bodyL, enc, ua, dx]

set_option maxHeartbeats 4000000 in
set_option maxRecDepth 100000 in
theorem law3_other (r : Int) (w : World) (h13 : ¬ r = 13) (h10 : ¬ r = 10)
    (hP : ∀ (cap : Nat) (W : World), (bodyB r).size ≤ cap → Below w.heap.size w W → (∀ j, j < (bodyB r).size → W.cell? ⟨w.heap.size, j, none⟩ = some (.int .u8 ((bodyB r).get! j).toNat)) →
      Calls Tryz.prog 6 #[.slice (some ⟨w.heap.size, 0, none⟩) (bodyB r).size cap, .string botB] W fun e W' => e = .returned (.agg #[.slice none 0 0, .int .i64 0]) ∧ Below W.heap.size W W') :
    Calls Tryz.prog 3 #[.int .i32 r] w fun e w' => e = .returned (.bool true) ∧ Below w.heap.size w w' := by
  obtain ⟨E, hE⟩ : ∃ E, Utf8.encode r = E := ⟨_, rfl⟩
  have hE4 : E.size ≤ 4 := by rw [← hE]; exact (enc_length r).2
  have hS : (⟨#[85, 115, 101, 114, 45, 97, 103, 101, 110, 116, 58, 32, 42]⟩ ++ E) ++ ⟨#[68, 105, 115, 97, 108, 108, 111, 119, 58, 32, 47, 120]⟩ = bodyB r := by rw [← hE]; exact body_cat r
  have hq13 : (r == 13) = false := by simp; omega
  have hq10 : (r == 10) = false := by simp; omega
  obtain ⟨cap, W1, hcb, hcap, hb1, hcell⟩ := bytes_laid (bodyB r) w
  have HP := hide (hP cap W1 hcap hb1 hcell)
  have HB1 := hide hb1
  have hle : lineEnd r = false := by unfold lineEnd; simp; omega
  have HL := hide (fun W => zzIsLineEnd_any r W)
  rw [hle] at HL
  generalize bodyB r = S at *
  generalize S.size = N at *
  clear hP hb1 hcell hle
  go_enter Tryz.func3, Tryz.ntmps3
  go_wp2_with (first
    | (go_at_call 6; refine (unhide HP).mono ?_; rintro e w2 ⟨rfl, hb2⟩)
    | (go_at_call 7; refine (groupLen_any _ _ _ _ _).mono ?_; rintro e w3 ⟨rfl, hb3⟩)
    | (go_at_call 9; refine (unhide HL _).mono ?_; rintro e w4 ⟨rfl, hw4⟩; obtain rfl := hw4.symm))
  go_ret
  have hb2' := (unhide HB1).trans (hb2.mono (unhide HB1).size)
  have hb2a := hb2'.alloc hb2'.size (.cells #[.slice none 0 0, .int .i64 0] 26)
  exact ⟨rfl, hb2a.trans (hb3.mono hb2a.size)⟩

theorem after7 {w2 w3 : World} {g k : Nat} (hg0 : w2.cell? ⟨g, 0, none⟩ = some (.bool false)) (hg1 : w2.cell? ⟨g, 1, none⟩ = some (.string ⟨#[47, 120]⟩))
    (hb3 : Below (w2.alloc (.cells #[.slice (some ⟨g, 0, none⟩) 1 k, .int .i64 0] 26)).heap.size (w2.alloc (.cells #[.slice (some ⟨g, 0, none⟩) 1 k, .int .i64 0] 26)) w3) :
    w3.cell? ⟨w2.heap.size, 0, none⟩ = some (.slice (some ⟨g, 0, none⟩) 1 k) ∧ w3.cell? ⟨w2.heap.size, 1, none⟩ = some (.int .i64 0) ∧ w3.cell? ⟨g, 0, none⟩ = some (.bool false) ∧ w3.cell? ⟨g, 1, none⟩ = some (.string ⟨#[47, 120]⟩) := by
  have hgl : g < w2.heap.size := block_lt_of_cell hg0
  refine ⟨?_, ?_, ?_, ?_⟩
  · rw [hb3.cell (p := ⟨w2.heap.size, 0, none⟩) (by simp)]; simp
  · rw [hb3.cell (p := ⟨w2.heap.size, 1, none⟩) (by simp)]; simp
  · rw [hb3.cell (p := ⟨g, 0, none⟩) (by simp; omega), World.cell?_alloc_past _ _ _ hgl]; exact hg0
  · rw [hb3.cell (p := ⟨g, 1, none⟩) (by simp; omega), World.cell?_alloc_past _ _ _ hgl]; exact hg1

set_option maxHeartbeats 4000000 in
set_option maxRecDepth 100000 in
theorem law3_eol (r : Int) (w : World) (hr : r = 13 ∨ r = 10)
    (hP : ∀ (cap : Nat) (W : World), (bodyB r).size ≤ cap → Below w.heap.size w W → (∀ j, j < (bodyB r).size → W.cell? ⟨w.heap.size, j, none⟩ = some (.int .u8 ((bodyB r).get! j).toNat)) →
      Calls Tryz.prog 6 #[.slice (some ⟨w.heap.size, 0, none⟩) (bodyB r).size cap, .string botB] W fun e W' => ∃ g k, e = .returned (.agg #[.slice (some ⟨g, 0, none⟩) 1 k, .int .i64 0]) ∧ W'.cell? ⟨g, 0, none⟩ = some (.bool false) ∧ W'.cell? ⟨g, 1, none⟩ = some (.string ⟨#[47, 120]⟩) ∧ Below W.heap.size W W') :
    Calls Tryz.prog 3 #[.int .i32 r] w fun e w' => e = .returned (.bool true) ∧ Below w.heap.size w w' := by
  obtain ⟨E, hE⟩ : ∃ E, Utf8.encode r = E := ⟨_, rfl⟩
  have hE4 : E.size ≤ 4 := by rw [← hE]; exact (enc_length r).2
  have hS : (⟨#[85, 115, 101, 114, 45, 97, 103, 101, 110, 116, 58, 32, 42]⟩ ++ E) ++ ⟨#[68, 105, 115, 97, 108, 108, 111, 119, 58, 32, 47, 120]⟩ = bodyB r := by rw [← hE]; exact body_cat r
  obtain ⟨cap, W1, hcb, hcap, hb1, hcell⟩ := bytes_laid (bodyB r) w
  have HP := hide (hP cap W1 hcap hb1 hcell)
  have HB1 := hide hb1
  have hle : lineEnd r = true := by unfold lineEnd; simp; omega
  have HL := hide (fun W => zzIsLineEnd_any r W)
  rw [hle] at HL
  generalize bodyB r = S at *
  generalize S.size = N at *
  clear hP hb1 hcell hle
  have HR := hide (fun g k d W h0 h1 => groupRule_any g k d false ⟨#[47, 120]⟩ W h0 h1)
  rcases hr with rfl | rfl
  · go_enter Tryz.func3, Tryz.ntmps3
    go_wp2_with (first
      | (go_at_call 6; refine (unhide HP).mono ?_; rintro e w2 ⟨g, k, rfl, hg0, hg1, hb2⟩)
      | (go_at_call 7; refine (groupLen_any _ _ _ _ _).mono ?_; rintro e w3 ⟨rfl, hb3⟩; obtain ⟨ha0, ha1, hj0, hj1⟩ := after7 hg0 hg1 hb3; have HB3 := hide hb3; clear hb3)
      | (go_at_call 8; refine (unhide HR _ _ _ _ hj0 hj1).mono ?_; rintro e w5 ⟨rfl, hb5⟩)
      | (go_at_call 9; refine (unhide HL _).mono ?_; rintro e w4 ⟨rfl, hw4⟩; obtain rfl := hw4.symm))
    go_ret
    have hb2' := (unhide HB1).trans (hb2.mono (unhide HB1).size)
    have hb2a := hb2'.alloc hb2'.size (.cells #[.slice (some ⟨g, 0, none⟩) 1 k, .int .i64 0] 26)
    have hb3a := hb2a.trans ((unhide HB3).mono hb2a.size)
    exact ⟨rfl, hb3a.trans (hb5.mono hb3a.size)⟩
  · go_enter Tryz.func3, Tryz.ntmps3
    go_wp2_with (first
      | (go_at_call 6; refine (unhide HP).mono ?_; rintro e w2 ⟨g, k, rfl, hg0, hg1, hb2⟩)
      | (go_at_call 7; refine (groupLen_any _ _ _ _ _).mono ?_; rintro e w3 ⟨rfl, hb3⟩; obtain ⟨ha0, ha1, hj0, hj1⟩ := after7 hg0 hg1 hb3; have HB3 := hide hb3; clear hb3)
      | (go_at_call 8; refine (unhide HR _ _ _ _ hj0 hj1).mono ?_; rintro e w5 ⟨rfl, hb5⟩)
      | (go_at_call 9; refine (unhide HL _).mono ?_; rintro e w4 ⟨rfl, hw4⟩; obtain rfl := hw4.symm))
    go_ret
    have hb2' := (unhide HB1).trans (hb2.mono (unhide HB1).size)
    have hb2a := hb2'.alloc hb2'.size (.cells #[.slice (some ⟨g, 0, none⟩) 1 k, .int .i64 0] 26)
    have hb3a := hb2a.trans ((unhide HB3).mono hb2a.size)
    exact ⟨rfl, hb3a.trans (hb5.mono hb3a.size)⟩
end Go.Proofs.Qxb6615497aGreatDoor
