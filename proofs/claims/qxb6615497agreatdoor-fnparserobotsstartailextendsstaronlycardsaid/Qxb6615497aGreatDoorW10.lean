import Derived.Test.Qxb6615497aGreatDoorW9
/- parseRobots at a body of two lines: a star group and its one rule. -/
namespace Go.Proofs.Qxb6615497aGreatDoor
open Go.RowKit

/-- what (*robotsGroup).add does to an empty group at Disallow: the one rule. -/
def AddsRule : Prop := ∀ (S : Nat) (W : World), W.cell? ⟨S, 0, none⟩ = some (.slice none 0 0) → W.frozen? ⟨S, 0, none⟩ = false → W.cell? ⟨S, 1, none⟩ = some (.int .i64 0) → W.frozen? ⟨S, 1, none⟩ = false →
  Calls Tryz.prog 31 #[.pointer (some ⟨S, 0, none⟩), .string ⟨#[100, 105, 115, 97, 108, 108, 111, 119]⟩, .string ⟨#[47, 120]⟩] W fun e W' => e = .returned (.tuple #[]) ∧
    ∃ g cap, W'.cell? ⟨S, 0, none⟩ = some (.slice (some ⟨g, 0, none⟩) 1 cap) ∧ W'.cell? ⟨S, 1, none⟩ = some (.int .i64 0) ∧ W'.cell? ⟨g, 0, none⟩ = some (.bool false) ∧ W'.cell? ⟨g, 1, none⟩ = some (.string ⟨#[47, 120]⟩) ∧ W.heap.size ≤ g ∧ Below S W W'

/-- the star group with its one rule; the result still empty. -/
def Ruled (B : Nat) (w W : World) : Prop := ∃ g cap, W.cell? ⟨B, 0, none⟩ = some (.slice none 0 0) ∧ W.cell? ⟨B, 1, none⟩ = some (.int .i64 0) ∧ W.frozen? ⟨B, 0, none⟩ = false ∧ W.frozen? ⟨B, 1, none⟩ = false ∧
  W.cell? ⟨B + 1 + 1, 0, none⟩ = some (.slice (some ⟨g, 0, none⟩) 1 cap) ∧ W.cell? ⟨B + 1 + 1, 1, none⟩ = some (.int .i64 0) ∧ W.cell? ⟨g, 0, none⟩ = some (.bool false) ∧ W.cell? ⟨g, 1, none⟩ = some (.string ⟨#[47, 120]⟩) ∧ B ≤ g ∧ B + 3 ≤ g ∧ Below B w W

theorem ruled_of {w W W' : World} (hG : Groups w.heap.size W) (hb : Below w.heap.size w W)
    (h : ∃ g cap, W'.cell? ⟨w.heap.size + 1 + 1, 0, none⟩ = some (.slice (some ⟨g, 0, none⟩) 1 cap) ∧ W'.cell? ⟨w.heap.size + 1 + 1, 1, none⟩ = some (.int .i64 0) ∧ W'.cell? ⟨g, 0, none⟩ = some (.bool false) ∧ W'.cell? ⟨g, 1, none⟩ = some (.string ⟨#[47, 120]⟩) ∧ W.heap.size ≤ g ∧ Below (w.heap.size + 1 + 1) W W') :
    Ruled w.heap.size w W' := by
  obtain ⟨g, cap, h1, h2, h3, h4, h5, h6⟩ := h
  have hz := hG.size
  exact ⟨g, cap, (h6.cell (p := ⟨w.heap.size, 0, none⟩) (by show w.heap.size < _; omega)).trans hG.r0, (h6.cell (p := ⟨w.heap.size, 1, none⟩) (by show w.heap.size < _; omega)).trans hG.r1,
    (h6.frozen (p := ⟨w.heap.size, 0, none⟩) (by show w.heap.size < _; omega)).trans hG.rf0, (h6.frozen (p := ⟨w.heap.size, 1, none⟩) (by show w.heap.size < _; omega)).trans hG.rf1, h1, h2, h3, h4, by omega, by omega, hb.trans (h6.mono (by omega))⟩

theorem block_lt_of_cell {w : World} {a : Addr} {v : Value} (h : w.cell? a = some v) : a.block < w.heap.size := by
  unfold World.cell? at h
  cases ho : w.heap[a.block]? with
  | none => simp [ho] at h
  | some o => exact (Array.getElem?_eq_some_iff.1 ho).1

set_option maxHeartbeats 4000000 in
set_option maxRecDepth 100000 in
theorem parse_two (b n c : Nat) (w : World) (hTP : TrimsNone b n c w) (hFF : LinesAre b n c [(0, 13), (14, 26)] w) (hRF : FieldIs (.slice (some ⟨b, 0, none⟩) 13 13) keyAgent ⟨#[42]⟩ w) (hRF2 : FieldIs (.slice (some ⟨b, 14, none⟩) 12 12) keyDisallow ⟨#[47, 120]⟩ w) (hAdd : AddsRule)
    (hcc : ∀ W : World, (convert 22 22 (.slice (some ⟨W.heap.size, 0, none⟩) 3 3)).run Tryz.prog (W.alloc (.cells #[.int .u8 239, .int .u8 187, .int .u8 191] 5)) = .ok (.slice (some ⟨W.heap.size, 0, none⟩) 3 3) (W.alloc (.cells #[.int .u8 239, .int .u8 187, .int .u8 191] 5 (3, 4)))) :
    Calls Tryz.prog 18 #[.slice (some ⟨b, 0, none⟩) n c, .string botB] w fun e w' => ∃ g cap, e = .returned (.agg #[.slice (some ⟨g, 0, none⟩) 1 cap, .int .i64 0]) ∧ w'.cell? ⟨g, 0, none⟩ = some (.bool false) ∧ w'.cell? ⟨g, 1, none⟩ = some (.string ⟨#[47, 120]⟩) ∧ w.heap.size ≤ g ∧ Below w.heap.size w w' := by
  obtain ⟨w3, hw3⟩ : ∃ w3, ((w.alloc (.cells #[.slice none 0 0, .int .i64 0] 26)).alloc (.cells #[.slice none 0 0, .int .i64 0] 26)).alloc (.cells #[.slice none 0 0, .int .i64 0] 26) = w3 := ⟨_, rfl⟩
  have hg3 := groups_new w
  rw [hw3] at hg3
  obtain ⟨hG3, hb3⟩ := hg3
  obtain ⟨w4, hw4⟩ : ∃ w4, w3.alloc (.cells #[.int .u8 239, .int .u8 187, .int .u8 191] 5 (3, 4)) = w4 := ⟨_, rfl⟩
  have hq0 : w4.cell? ⟨w3.heap.size, 0, none⟩ = some (.int .u8 239) := by rw [← hw4, World.cell?_alloc_mark]; rfl
  have hq1 : w4.cell? ⟨w3.heap.size, 1, none⟩ = some (.int .u8 187) := by rw [← hw4, World.cell?_alloc_mark]; rfl
  have hq2 : w4.cell? ⟨w3.heap.size, 2, none⟩ = some (.int .u8 191) := by rw [← hw4, World.cell?_alloc_mark]; rfl
  have hb34 : Below w3.heap.size w3 w4 := by rw [← hw4]; exact (Below.refl _ w3).alloc (Nat.le_refl _) _
  have hb4 := hb3.trans (hb34.mono hb3.size)
  have hG4 := hG3.below hb34
  have HTP := hide (hTP w4 w3.heap.size hb4 hq0 hq1 hq2)
  have HFF := hide (hFF w4 hb4)
  have HRF := hide hRF
  have HRF2 := hide hRF2
  have HAdd := hide hAdd
  have HG := hide (And.intro hG4 hb4)
  have hcc3 := hcc w3
  clear hTP hFF hRF hRF2 hAdd hcc hq0 hq1 hq2 hG3 hb3 hG4 hb4 hb34
  go_enter Tryz.func18, Tryz.ntmps18
  go_wp2_with (first
    | (go_at_call 27; refine (unhide HTP).mono ?_; rintro e w5 ⟨rfl, hw5⟩; obtain rfl := hw5.symm)
    | (go_at_call 26; refine (unhide HFF).mono ?_; rintro e w6 ⟨A, rfl, hA, hrow, hb46⟩))
  have hG6 := (unhide HG).1.below hb46
  have hb6 := (unhide HG).2.trans (hb46.mono (unhide HG).2.size)
  have hc6 : w6.cell? ⟨A, 0, none⟩ = some (.slice (some ⟨b, 0, none⟩) 13 13) := hrow 0 (0, 13) rfl
  have hc61 : w6.cell? ⟨A, 1, none⟩ = some (.slice (some ⟨b, 14, none⟩) 12 12) := hrow 1 (14, 26) rfl
  have HRF' : Hid (∀ W : World, Below w.heap.size w W → Calls Tryz.prog 28 #[.slice (some ⟨b, 0, none⟩) 13 13] W fun e W' => e = .returned (.tuple #[.string ⟨#[117, 115, 101, 114, 45, 97, 103, 101, 110, 116]⟩, .string ⟨#[42]⟩, .bool true]) ∧ Below W.heap.size W W') := HRF
  have HRF2' : Hid (∀ W : World, Below w.heap.size w W → Calls Tryz.prog 28 #[.slice (some ⟨b, 14, none⟩) 12 12] W fun e W' => e = .returned (.tuple #[.string ⟨#[100, 105, 115, 97, 108, 108, 111, 119]⟩, .string ⟨#[47, 120]⟩, .bool true]) ∧ Below W.heap.size W W') := HRF2
  have HPT := hide (fun W => productToken_any ⟨#[42]⟩ W)
  rw [token_star] at HPT
  have H6 := hide (And.intro hG6 hb6)
  clear HRF HRF2 HTP HFF HG hrow hb46 hG6 hb6 hA hcc3
  go_loopw [7, 8, 9, 10, 23] (fun s7 s8 s9 s10 s23 wx => s7 = .bool false ∧
      ((Hid (Groups w.heap.size wx ∧ Below w.heap.size w wx) ∧ s8 = .bool false ∧ s9 = .bool false ∧ s10 = .bool false ∧ s23 = .int .i64 0 ∧ wx.cell? ⟨A, 0, none⟩ = some (.slice (some ⟨b, 0, none⟩) 13 13) ∧ wx.cell? ⟨A, 1, none⟩ = some (.slice (some ⟨b, 14, none⟩) 12 12)) ∨
       (Hid (Groups w.heap.size wx ∧ Below w.heap.size w wx) ∧ s8 = .bool false ∧ s9 = .bool true ∧ s10 = .bool true ∧ s23 = .int .i64 1 ∧ wx.cell? ⟨A, 1, none⟩ = some (.slice (some ⟨b, 14, none⟩) 12 12)) ∨
       (s23 = .int .i64 2 ∧ Hid (Ruled w.heap.size w wx))))
    (fun _ _ _ _ s23 _ => match s23 with | .int _ z => (2 - z).toNat | _ => 0)
  case atStart => exact ⟨rfl, .inl ⟨H6, rfl, rfl, rfl, rfl, hc6, hc61⟩⟩
  case round =>
    obtain ⟨rfl, ⟨HW, rfl, rfl, rfl, rfl, hcell, hcell1⟩ | ⟨HW, rfl, rfl, rfl, rfl, hcell1⟩ | ⟨rfl, HW⟩⟩ := hrel
    · have HR := hide (unhide HRF' wr (unhide HW).2)
      go_wp2_with (first
        | (go_at_call 28; refine (unhide HR).mono ?_; rintro e w7 ⟨rfl, hb7⟩)
        | (go_at_call 29; refine (unhide HPT _).mono ?_; rintro e w8 ⟨rfl, hb8⟩))
      have H8 : Hid (Groups w.heap.size w8 ∧ Below w.heap.size w w8) := ⟨((unhide HW).1.below hb7).below hb8, ((unhide HW).2.trans (hb7.mono (unhide HW).2.size)).trans (hb8.mono ((unhide HW).2.trans (hb7.mono (unhide HW).2.size)).size)⟩
      have hlt := block_lt_of_cell hcell1
      have hlt7 := hb7.size
      have hc7 := (hb7.cell (p := ⟨A, 1, none⟩) hlt).trans hcell1
      have hc8 := (hb8.cell (p := ⟨A, 1, none⟩) (by show A < _; exact Nat.lt_of_lt_of_le hlt hlt7)).trans hc7
      refine ⟨⟨rfl, .inr (.inl ⟨H8, rfl, rfl, rfl, rfl, hc8⟩)⟩, ?_⟩
      show (2 - (1 : Int)).toNat < (2 - (0 : Int)).toNat
      omega
    · have HR := hide (unhide HRF2' wr (unhide HW).2)
      go_wp2_with (first
        | (go_at_call 28; refine (unhide HR).mono ?_; rintro e w7 ⟨rfl, hb7⟩; have H7 : Hid (Groups w.heap.size w7 ∧ Below w.heap.size w w7) := ⟨(unhide HW).1.below hb7, (unhide HW).2.trans (hb7.mono (unhide HW).2.size)⟩)
        | (go_at_call 31; refine (unhide HAdd _ _ (unhide H7).1.s0 (unhide H7).1.sf0 (unhide H7).1.s1 (unhide H7).1.sf1).mono ?_; rintro e w8 ⟨rfl, hrl⟩))
      have H8 : Hid (Ruled w.heap.size w w8) := ruled_of (unhide H7).1 (unhide H7).2 hrl
      refine ⟨⟨rfl, .inr (.inr ⟨rfl, H8⟩)⟩, ?_⟩
      show (2 - (2 : Int)).toNat < (2 - (1 : Int)).toNat
      omega
    · obtain ⟨g, cap, r0, r1, rf0, rf1, s0, s1, g0, g1, hg, hgne, hb⟩ := unhide HW
      have HB := hide hb
      clear hb HW
      go_wp2
      have c0 : ((wr.setCell ⟨w.heap.size, 0, none⟩ (.slice (some ⟨g, 0, none⟩) 1 cap)).setCell ⟨w.heap.size, 1, none⟩ (.int .i64 0)).cell? ⟨w.heap.size, 0, none⟩ = some (.slice (some ⟨g, 0, none⟩) 1 cap) := by
        rw [World.cell?_setCell_other _ _ _ _ (by simp), World.cell?_setCell_same' _ _ _ (by rw [r0]; rfl)]
      have c1 : ((wr.setCell ⟨w.heap.size, 0, none⟩ (.slice (some ⟨g, 0, none⟩) 1 cap)).setCell ⟨w.heap.size, 1, none⟩ (.int .i64 0)).cell? ⟨w.heap.size, 1, none⟩ = some (.int .i64 0) :=
        World.cell?_setCell_same' _ _ _ (by rw [World.cell?_setCell_other _ _ _ _ (by simp), r1]; rfl)
      have d0 : ((wr.setCell ⟨w.heap.size, 0, none⟩ (.slice (some ⟨g, 0, none⟩) 1 cap)).setCell ⟨w.heap.size, 1, none⟩ (.int .i64 0)).cell? ⟨g, 0, none⟩ = some (.bool false) := by
        rw [World.cell?_setCell_other _ _ _ _ (by intro e; injection e with e1; omega), World.cell?_setCell_other _ _ _ _ (by intro e; injection e with e1; omega), g0]
      have d1 : ((wr.setCell ⟨w.heap.size, 0, none⟩ (.slice (some ⟨g, 0, none⟩) 1 cap)).setCell ⟨w.heap.size, 1, none⟩ (.int .i64 0)).cell? ⟨g, 1, none⟩ = some (.string ⟨#[47, 120]⟩) := by
        rw [World.cell?_setCell_other _ _ _ _ (by intro e; injection e with e1; omega), World.cell?_setCell_other _ _ _ _ (by intro e; injection e with e1; omega), g1]
      have hbE : Below w.heap.size w ((wr.setCell ⟨w.heap.size, 0, none⟩ (.slice (some ⟨g, 0, none⟩) 1 cap)).setCell ⟨w.heap.size, 1, none⟩ (.int .i64 0)) :=
        ((unhide HB).setCell (p := ⟨w.heap.size, 0, none⟩) (Nat.le_refl _) _).setCell (p := ⟨w.heap.size, 1, none⟩) (Nat.le_refl _) _
      generalize ((wr.setCell ⟨w.heap.size, 0, none⟩ (.slice (some ⟨g, 0, none⟩) 1 cap)).setCell ⟨w.heap.size, 1, none⟩ (.int .i64 0)) = wE at c0 c1 d0 d1 hbE ⊢
      refine bodyPost_ret (v := .agg #[.slice (some ⟨g, 0, none⟩) 1 cap, .int .i64 0]) (by simp [results, Tryz.results18, go_sem, c0, c1]) rfl ⟨g, cap, rfl, d0, d1, hg, hbE⟩
end Go.Proofs.Qxb6615497aGreatDoor
