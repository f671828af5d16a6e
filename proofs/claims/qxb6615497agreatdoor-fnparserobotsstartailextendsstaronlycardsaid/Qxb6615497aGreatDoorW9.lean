import Derived.Test.Qxb6615497aGreatDoorW3
import Derived.Test.Qxb6615497aGreatDoorW5
/- parseRobots at a body of one line. -/
namespace Go.Proofs.Qxb6615497aGreatDoor
open Go.RowKit

def keyAgent : ByteArray := ⟨#[117, 115, 101, 114, 45, 97, 103, 101, 110, 116]⟩
def keyDisallow : ByteArray := ⟨#[100, 105, 115, 97, 108, 108, 111, 119]⟩
def botB : ByteArray := ⟨#[98, 111, 116]⟩

/-- no byte order mark at the body's head: bytes.TrimPrefix hands the body back. -/
def TrimsNone (b n c : Nat) (w : World) : Prop := ∀ (W : World) (q : Nat), Below w.heap.size w W → W.cell? ⟨q, 0, none⟩ = some (.int .u8 239) → W.cell? ⟨q, 1, none⟩ = some (.int .u8 187) → W.cell? ⟨q, 2, none⟩ = some (.int .u8 191) →
  Calls Tryz.prog 27 #[.slice (some ⟨b, 0, none⟩) n c, .slice (some ⟨q, 0, none⟩) 3 3] W fun e W' => e = .returned (.slice (some ⟨b, 0, none⟩) n c) ∧ W' = W
/-- the lines of the body. -/
def LinesAre (b n c : Nat) (sp : List (Nat × Nat)) (w : World) : Prop := ∀ W : World, Below w.heap.size w W →
  Calls Tryz.prog 26 #[.slice (some ⟨b, 0, none⟩) n c, .func (.func 19) #[] #[]] W fun e W' => ∃ A, e = .returned (.slice (some ⟨A, 0, none⟩) sp.length sp.length) ∧ W.heap.size ≤ A ∧ (∀ i x, sp[i]? = some x → W'.cell? ⟨A, i, none⟩ = some (fieldV b 0 x)) ∧ Below W.heap.size W W'
/-- the field of a line. -/
def FieldIs (line : Value) (K V : ByteArray) (w : World) : Prop := ∀ W : World, Below w.heap.size w W →
  Calls Tryz.prog 28 #[line] W fun e W' => e = .returned (.tuple #[.string K, .string V, .bool true]) ∧ Below W.heap.size W W'
/-- the empty token is not ours. -/
def FoldsNot : Prop := ∀ W : World, Calls Tryz.prog 30 #[.string ⟨#[]⟩, .string botB] W fun e W' => e = .returned (.bool false) ∧ Below W.heap.size W W'

/-- the three groups that parseRobots lays: its result, the token's, the star's. -/
structure Groups (B : Nat) (W : World) : Prop where
  r0 : W.cell? ⟨B, 0, none⟩ = some (.slice none 0 0)
  r1 : W.cell? ⟨B, 1, none⟩ = some (.int .i64 0)
  rf0 : W.frozen? ⟨B, 0, none⟩ = false
  rf1 : W.frozen? ⟨B, 1, none⟩ = false
  s0 : W.cell? ⟨B + 1 + 1, 0, none⟩ = some (.slice none 0 0)
  s1 : W.cell? ⟨B + 1 + 1, 1, none⟩ = some (.int .i64 0)
  sf0 : W.frozen? ⟨B + 1 + 1, 0, none⟩ = false
  sf1 : W.frozen? ⟨B + 1 + 1, 1, none⟩ = false
  size : B + 3 ≤ W.heap.size

theorem Groups.below {B : Nat} {W W' : World} (h : Groups B W) (hb : Below W.heap.size W W') : Groups B W' := by
  have hz := h.size
  have hz' := hb.size
  refine ⟨(hb.cell (p := ⟨B, 0, none⟩) (by show B < _; omega)).trans h.r0, (hb.cell (p := ⟨B, 1, none⟩) (by show B < _; omega)).trans h.r1, (hb.frozen (p := ⟨B, 0, none⟩) (by show B < _; omega)).trans h.rf0, (hb.frozen (p := ⟨B, 1, none⟩) (by show B < _; omega)).trans h.rf1,
    (hb.cell (p := ⟨B + 1 + 1, 0, none⟩) (by show B + 1 + 1 < _; omega)).trans h.s0, (hb.cell (p := ⟨B + 1 + 1, 1, none⟩) (by show B + 1 + 1 < _; omega)).trans h.s1, (hb.frozen (p := ⟨B + 1 + 1, 0, none⟩) (by show B + 1 + 1 < _; omega)).trans h.sf0, (hb.frozen (p := ⟨B + 1 + 1, 1, none⟩) (by show B + 1 + 1 < _; omega)).trans h.sf1, by omega⟩

theorem groups_new (w : World) : Groups w.heap.size (((w.alloc (.cells #[.slice none 0 0, .int .i64 0] 26)).alloc (.cells #[.slice none 0 0, .int .i64 0] 26)).alloc (.cells #[.slice none 0 0, .int .i64 0] 26)) ∧
    Below w.heap.size w (((w.alloc (.cells #[.slice none 0 0, .int .i64 0] 26)).alloc (.cells #[.slice none 0 0, .int .i64 0] 26)).alloc (.cells #[.slice none 0 0, .int .i64 0] 26)) := by
  refine ⟨⟨?_, ?_, ?_, ?_, ?_, ?_, ?_, ?_, ?_⟩, (((Below.refl _ w).alloc (Nat.le_refl _) _).alloc (by simp) _).alloc (by simp; omega) _⟩
  all_goals go_simp

set_option maxHeartbeats 4000000 in
set_option maxRecDepth 100000 in
theorem parse_one (b n c : Nat) (V : ByteArray) (w : World) (hV : tokenOf V = ⟨#[42]⟩ ∨ tokenOf V = ⟨#[]⟩) (hTP : TrimsNone b n c w) (hFF : LinesAre b n c [(0, n)] w) (hRF : FieldIs (.slice (some ⟨b, 0, none⟩) n n) keyAgent V w) (hEF : FoldsNot)
    (hcc : ∀ W : World, (convert 22 22 (.slice (some ⟨W.heap.size, 0, none⟩) 3 3)).run Tryz.prog (W.alloc (.cells #[.int .u8 239, .int .u8 187, .int .u8 191] 5)) = .ok (.slice (some ⟨W.heap.size, 0, none⟩) 3 3) (W.alloc (.cells #[.int .u8 239, .int .u8 187, .int .u8 191] 5 (3, 4)))) :
    Calls Tryz.prog 18 #[.slice (some ⟨b, 0, none⟩) n c, .string botB] w fun e w' => e = .returned (.agg #[.slice none 0 0, .int .i64 0]) ∧ Below w.heap.size w w' := by
  obtain ⟨w3, hw3⟩ : ∃ w3, ((w.alloc (.cells #[.slice none 0 0, .int .i64 0] 26)).alloc (.cells #[.slice none 0 0, .int .i64 0] 26)).alloc (.cells #[.slice none 0 0, .int .i64 0] 26) = w3 := ⟨_, rfl⟩
  have hg3 := groups_new w
  rw [hw3] at hg3
  obtain ⟨hG3, hb3⟩ := hg3
  obtain ⟨w4, hw4⟩ : ∃ w4, w3.alloc (.cells #[.int .u8 239, .int .u8 187, .int .u8 191] 5 (3, 4)) = w4 := ⟨_, rfl⟩
  have hq0 : w4.cell? ⟨w3.heap.size, 0, none⟩ = some (.int .u8 239) := by rw [← hw4, World.cell?_alloc_mark]; rfl
  have hq1 : w4.cell? ⟨w3.heap.size, 1, none⟩ = some (.int .u8 187) := by rw [← hw4, World.cell?_alloc_mark]; rfl
  have hq2 : w4.cell? ⟨w3.heap.size, 2, none⟩ = some (.int .u8 191) := by rw [← hw4, World.cell?_alloc_mark]; rfl
  have hb34 : Below w3.heap.size w3 w4 := by rw [← hw4]; exact (Below.refl _ w3).alloc (Nat.le_refl _) _
  have hb4 := hb3.trans (hb34.mono hb3.size)
  have hG4 := hG3.below hb34
  have HTP := hide (hTP w4 w3.heap.size hb4 hq0 hq1 hq2)
  have HFF := hide (hFF w4 hb4)
  have HRF := hide hRF
  have HEF := hide hEF
  have HG := hide (And.intro hG4 hb4)
  have hcc3 := hcc w3
  clear hTP hFF hRF hEF hcc hq0 hq1 hq2 hG3 hb3 hG4 hb4 hb34
  go_enter Tryz.func18, Tryz.ntmps18
  go_wp2_with (first
    | (go_at_call 27; refine (unhide HTP).mono ?_; rintro e w5 ⟨rfl, hw5⟩; obtain rfl := hw5.symm)
    | (go_at_call 26; refine (unhide HFF).mono ?_; rintro e w6 ⟨A, rfl, hA, hrow, hb46⟩))
  have hG6 := (unhide HG).1.below hb46
  have hb6 := (unhide HG).2.trans (hb46.mono (unhide HG).2.size)
  have hc6 : w6.cell? ⟨A, 0, none⟩ = some (.slice (some ⟨b, 0, none⟩) n n) := hrow 0 (0, n) rfl
  have HRF' : Hid (∀ W : World, Below w.heap.size w W → Calls Tryz.prog 28 #[.slice (some ⟨b, 0, none⟩) n n] W fun e W' => e = .returned (.tuple #[.string ⟨#[117, 115, 101, 114, 45, 97, 103, 101, 110, 116]⟩, .string V, .bool true]) ∧ Below W.heap.size W W') := HRF
  have HPT := hide (fun W => productToken_any V W)
  have H6 := hide (And.intro hG6 hb6)
  clear HRF HTP HFF HG hrow hb46 hG6 hb6 hA hcc3
  go_loopw [7, 8, 9, 10, 23] (fun s7 s8 s9 s10 s23 wx => s7 = .bool false ∧ Hid (Groups w.heap.size wx ∧ Below w.heap.size w wx) ∧
      ((s8 = .bool false ∧ s9 = .bool false ∧ s10 = .bool false ∧ s23 = .int .i64 0 ∧ wx.cell? ⟨A, 0, none⟩ = some (.slice (some ⟨b, 0, none⟩) n n)) ∨ s23 = .int .i64 1))
    (fun _ _ _ _ s23 _ => match s23 with | .int _ z => (1 - z).toNat | _ => 0)
  case atStart => exact ⟨rfl, H6, .inl ⟨rfl, rfl, rfl, rfl, hc6⟩⟩
  case round =>
    obtain ⟨rfl, HW, ⟨rfl, rfl, rfl, rfl, hcell⟩ | rfl⟩ := hrel
    · have HR := hide (unhide HRF' wr (unhide HW).2)
      rcases hV with hV | hV
      · rw [hV] at HPT
        go_wp2_with (first
          | (go_at_call 28; refine (unhide HR).mono ?_; rintro e w7 ⟨rfl, hb7⟩)
          | (go_at_call 29; refine (unhide HPT _).mono ?_; rintro e w8 ⟨rfl, hb8⟩))
        have H8 : Hid (Groups w.heap.size w8 ∧ Below w.heap.size w w8) := ⟨((unhide HW).1.below hb7).below hb8, ((unhide HW).2.trans (hb7.mono (unhide HW).2.size)).trans (hb8.mono ((unhide HW).2.trans (hb7.mono (unhide HW).2.size)).size)⟩
        refine ⟨⟨rfl, H8, .inr rfl⟩, ?_⟩
        show (1 - (1 : Int)).toNat < (1 - (0 : Int)).toNat
        omega
      · rw [hV] at HPT
        go_wp2_with (first
          | (go_at_call 28; refine (unhide HR).mono ?_; rintro e w7 ⟨rfl, hb7⟩)
          | (go_at_call 29; refine (unhide HPT _).mono ?_; rintro e w8 ⟨rfl, hb8⟩)
          | (go_at_call 30; refine (unhide HEF _).mono ?_; rintro e w9 ⟨rfl, hb9⟩))
        have hb78 := ((unhide HW).2.trans (hb7.mono (unhide HW).2.size))
        have hb88 := hb78.trans (hb8.mono hb78.size)
        have H9 : Hid (Groups w.heap.size w9 ∧ Below w.heap.size w w9) := ⟨(((unhide HW).1.below hb7).below hb8).below hb9, hb88.trans (hb9.mono hb88.size)⟩
        refine ⟨⟨rfl, H9, .inr rfl⟩, ?_⟩
        show (1 - (1 : Int)).toNat < (1 - (0 : Int)).toNat
        omega
    · obtain ⟨hG, hb⟩ := unhide HW
      obtain ⟨r0, r1, rf0, rf1, s0, s1, sf0, sf1, hz⟩ := hG
      have HB := hide hb
      clear hb HW
      go_wp2
      have c0 : ((wr.setCell ⟨w.heap.size, 0, none⟩ (.slice none 0 0)).setCell ⟨w.heap.size, 1, none⟩ (.int .i64 0)).cell? ⟨w.heap.size, 0, none⟩ = some (.slice none 0 0) := by
        rw [World.cell?_setCell_other _ _ _ _ (by simp), World.cell?_setCell_same' _ _ _ (by rw [r0]; rfl)]
      have c1 : ((wr.setCell ⟨w.heap.size, 0, none⟩ (.slice none 0 0)).setCell ⟨w.heap.size, 1, none⟩ (.int .i64 0)).cell? ⟨w.heap.size, 1, none⟩ = some (.int .i64 0) :=
        World.cell?_setCell_same' _ _ _ (by rw [World.cell?_setCell_other _ _ _ _ (by simp), r1]; rfl)
      have hbE : Below w.heap.size w ((wr.setCell ⟨w.heap.size, 0, none⟩ (.slice none 0 0)).setCell ⟨w.heap.size, 1, none⟩ (.int .i64 0)) :=
        ((unhide HB).setCell (p := ⟨w.heap.size, 0, none⟩) (Nat.le_refl _) _).setCell (p := ⟨w.heap.size, 1, none⟩) (Nat.le_refl _) _
      generalize ((wr.setCell ⟨w.heap.size, 0, none⟩ (.slice none 0 0)).setCell ⟨w.heap.size, 1, none⟩ (.int .i64 0)) = wE at c0 c1 hbE ⊢
      refine bodyPost_ret (v := .agg #[.slice none 0 0, .int .i64 0]) (by simp [results, Tryz.results18, go_sem, c0, c1]) rfl ⟨rfl, hbE⟩
end Go.Proofs.Qxb6615497aGreatDoor
