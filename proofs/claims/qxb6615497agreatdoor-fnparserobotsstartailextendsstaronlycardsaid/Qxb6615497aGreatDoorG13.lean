import Derived.Test.Qxb6615497aGreatDoorG12
/- robotsField at every line. -/
namespace Go.Proofs.Qxb6615497aGreatDoor
open Go Go.RowKit

set_option maxHeartbeats 4000000 in
set_option maxRecDepth 100000 in
theorem field_found (b o n c m : Nat) (z : Int) (w : World) (kv vv kv' vv' : Value) (K K' V : ByteArray) (hnc : n ≤ c) (hz : (z = -1 ∧ m = n) ∨ (z = (m : Int) ∧ m ≤ n))
    (hI : Calls Tryz.prog 46 #[.slice (some ⟨b, o, none⟩) n c, .int .u8 35] w fun e w' => e = .returned (.int .i64 z) ∧ w' = w)
    (hC : Calls Tryz.prog 47 #[.slice (some ⟨b, o, none⟩) m c, .slice (some ⟨w.heap.size, 0, none⟩) 1 1] (w.alloc (.cells #[.int .u8 58] 5 (1, 2))) fun e w' => e = .returned (.tuple #[kv, vv, .bool true]) ∧ Below w.heap.size w w')
    (hT1 : ∀ W, Below w.heap.size w W → Calls Tryz.prog 49 #[kv, .string ⟨#[32, 9]⟩] W fun e W' => e = .returned kv' ∧ Below W.heap.size W W')
    (hT2 : ∀ W, Below w.heap.size w W → Calls Tryz.prog 49 #[vv, .string ⟨#[32, 9]⟩] W fun e W' => e = .returned vv' ∧ Below W.heap.size W W')
    (hL : ∀ W, Below w.heap.size w W → Calls Tryz.prog 48 #[.string K] W fun e W' => e = .returned (.string K') ∧ Below W.heap.size W W')
    (hv1 : ∀ W, Below w.heap.size w W → (convert 22 9 kv').run Tryz.prog W = .ok (.string K) W)
    (hv2 : ∀ W, Below w.heap.size w W → (convert 22 9 vv').run Tryz.prog W = .ok (.string V) W) :
    Calls Tryz.prog 28 #[.slice (some ⟨b, o, none⟩) n c] w fun e w' => e = .returned (.tuple #[.string K', .string V, .bool true]) ∧ Below w.heap.size w w' := by
  have HT1 := hide hT1
  have HT2 := hide hT2
  have HL := hide hL
  have HC := hide hC
  have HI := hide hI
  have HV1 := hide hv1
  have HV2 := hide hv2
  clear hT1 hT2 hL hC hI hv1 hv2
  have hcc := Lib.run_convert_bytes_const (P := Tryz.prog) w 22 5 #[.int .u8 58] 1 1 Tryz.underlying22 Tryz.underlying5
  rcases hz with ⟨rfl, rfl⟩ | ⟨rfl, hm⟩
  · go_enter Tryz.func28, Tryz.ntmps28
    go_wp2_with (first
      | (go_at_call 46; refine (unhide HI).mono ?_; rintro e w' ⟨rfl, hw⟩; obtain rfl := hw.symm)
      | (go_at_call 47; refine (unhide HC).mono ?_; rintro e w1 ⟨rfl, hb1⟩))
    go_region_with (first
      | (go_at_call 48; refine (unhide HL _ hb2).mono ?_; rintro e w3 ⟨rfl, hb3'⟩; have hb3 := hb2.trans (hb3'.mono hb2.size))
      | (go_at_call 49; first
          | (refine (unhide HT2 _ hb3).mono ?_; rintro e w4 ⟨rfl, hb4'⟩; have hb4 := hb3.trans (hb4'.mono hb3.size); have hx2 := unhide HV2 _ hb4)
          | (refine (unhide HT1 _ hb1.drew).mono ?_; rintro e w2 ⟨rfl, hb2'⟩; have hb2 := hb1.drew.trans (hb2'.mono hb1.drew.size); have hx1 := unhide HV1 _ hb2)))
    go_wp2
    go_ret3
    exact ⟨rfl, hb4⟩
  · have hm0 : (0 : Int) ≤ (m : Int) := by omega
    go_enter Tryz.func28, Tryz.ntmps28
    go_wp2_with (first
      | (go_at_call 46; refine (unhide HI).mono ?_; rintro e w' ⟨rfl, hw⟩; obtain rfl := hw.symm)
      | (go_at_call 47; refine (unhide HC).mono ?_; rintro e w1 ⟨rfl, hb1⟩))
    go_region_with (first
      | (go_at_call 48; refine (unhide HL _ hb2).mono ?_; rintro e w3 ⟨rfl, hb3'⟩; have hb3 := hb2.trans (hb3'.mono hb2.size))
      | (go_at_call 49; first
          | (refine (unhide HT2 _ hb3).mono ?_; rintro e w4 ⟨rfl, hb4'⟩; have hb4 := hb3.trans (hb4'.mono hb3.size); have hx2 := unhide HV2 _ hb4)
          | (refine (unhide HT1 _ hb1.drew).mono ?_; rintro e w2 ⟨rfl, hb2'⟩; have hb2 := hb1.drew.trans (hb2'.mono hb1.drew.size); have hx1 := unhide HV1 _ hb2)))
    go_wp2
    go_ret3
    exact ⟨rfl, hb4⟩

set_option maxHeartbeats 4000000 in
set_option maxRecDepth 100000 in
theorem field_none (b o n c m : Nat) (z : Int) (w : World) (kv vv : Value) (hnc : n ≤ c) (hz : (z = -1 ∧ m = n) ∨ (z = (m : Int) ∧ m ≤ n))
    (hI : Calls Tryz.prog 46 #[.slice (some ⟨b, o, none⟩) n c, .int .u8 35] w fun e w' => e = .returned (.int .i64 z) ∧ w' = w)
    (hC : Calls Tryz.prog 47 #[.slice (some ⟨b, o, none⟩) m c, .slice (some ⟨w.heap.size, 0, none⟩) 1 1] (w.alloc (.cells #[.int .u8 58] 5 (1, 2))) fun e w' => e = .returned (.tuple #[kv, vv, .bool false]) ∧ Below w.heap.size w w') :
    Calls Tryz.prog 28 #[.slice (some ⟨b, o, none⟩) n c] w fun e w' => e = .returned (.tuple #[.string ⟨#[]⟩, .string ⟨#[]⟩, .bool false]) ∧ Below w.heap.size w w' := by
  have HC := hide hC
  have HI := hide hI
  clear hC hI
  have hcc := Lib.run_convert_bytes_const (P := Tryz.prog) w 22 5 #[.int .u8 58] 1 1 Tryz.underlying22 Tryz.underlying5
  rcases hz with ⟨rfl, rfl⟩ | ⟨rfl, hm⟩
  · go_enter Tryz.func28, Tryz.ntmps28
    go_wp2_with (first
      | (go_at_call 46; refine (unhide HI).mono ?_; rintro e w' ⟨rfl, hw⟩; obtain rfl := hw.symm)
      | (go_at_call 47; refine (unhide HC).mono ?_; rintro e w1 ⟨rfl, hb1⟩))
    go_ret3
    exact ⟨rfl, hb1⟩
  · have hm0 : (0 : Int) ≤ (m : Int) := by omega
    go_enter Tryz.func28, Tryz.ntmps28
    go_wp2_with (first
      | (go_at_call 46; refine (unhide HI).mono ?_; rintro e w' ⟨rfl, hw⟩; obtain rfl := hw.symm)
      | (go_at_call 47; refine (unhide HC).mono ?_; rintro e w1 ⟨rfl, hb1⟩))
    go_ret3
    exact ⟨rfl, hb1⟩

/-- the tables that robotsField reads. -/
structure FieldTabs (w : World) : Prop where
  mx : ∃ m, w.cell? ⟨6, 0, none⟩ = some (.int .i64 m)
  cv : Lib.CaseVar 3 Lib.caseA w
  u8 : Lib.Utf8Tabs 4 5 w
theorem FieldTabs.below {w w' : World} (h : FieldTabs w) (hb : Below w.heap.size w w') : FieldTabs w' := by
  obtain ⟨m, hm⟩ := h.mx
  exact ⟨⟨m, (hb.cell (p := ⟨6, 0, none⟩) (block_lt_of_cell hm)).trans hm⟩, Lib.CaseVar_below h.cv hb, Utf8Tabs_below h.u8 hb⟩

theorem lower_l (l : List UInt8) (W : World) (hl : l.length ≤ 4294967280) (hT : FieldTabs W) : Calls Tryz.prog 48 #[.string ⟨l.toArray⟩] W fun e W' => e = .returned (.string ⟨(Lib.toLowerD l).toArray⟩) ∧ Below W.heap.size W W' := by
  have hs : (⟨l.toArray⟩ : ByteArray).size < 35184372088832 := by
    show l.toArray.size < _
    rw [List.size_toArray]; omega
  exact Any.strings_ToLower_any Tryz.lays159 Tryz.Builder_Extra_159 ⟨l.toArray⟩ W hs hT.cv hT.u8

theorem field_any {w : World} {b o : Nat} (L : List UInt8) (c : Nat) (h : Holds w b o L) (hc : L.length ≤ c) (hc2 : c ≤ 4294967280) (hT : FieldTabs w) :
    Calls Tryz.prog 28 #[.slice (some ⟨b, o, none⟩) L.length c] w fun e w' => e = .returned (fieldV3 L) ∧ Below w.heap.size w w' := by
  have hb1 := alloc_marked_below w #[.int .u8 58] 5 (1, 2)
  have hz : (Lib.indexByte L 35 = -1 ∧ (noHash L).length = L.length) ∨ (Lib.indexByte L 35 = ((noHash L).length : Int) ∧ (noHash L).length ≤ L.length) := by
    unfold noHash
    rcases indexByte_len L 35 with h0 | ⟨h0, h1⟩
    · rw [if_neg (by omega)]; exact .inl ⟨h0, rfl⟩
    · rw [if_pos h0, List.length_take]; right; omega
  have hL1 : Holds w b o (noHash L) := by
    unfold noHash
    split
    · exact holds_take h _
    · exact h
  have hn1 : (noHash L).length ≤ L.length := by
    rcases hz with h | h <;> omega
  have hcut := cut_any (hL1.below hb1) c w.heap.size (by omega) (by omega) (by rw [World.cell?_alloc_mark]; rfl) (hT.below hb1).mx
  unfold fieldV3 fieldOf
  rcases indexByte_len (noHash L) 58 with h0 | ⟨h0, h1⟩
  · rw [if_neg (by omega)]
    rw [h0] at hcut
    refine field_none b o _ c (noHash L).length _ w (.slice (some ⟨b, o, none⟩) (noHash L).length c) (.slice none 0 0) hc hz (indexByte_h h c) (hcut.mono ?_)
    rintro e w' ⟨rfl, n, rfl⟩
    exact ⟨rfl, belowDrewN hb1 n⟩
  · rw [if_pos h0]
    have hkv : SlV w (.slice (some ⟨b, o, none⟩) (Lib.indexByte (noHash L) 58).toNat c) ((noHash L).take (Lib.indexByte (noHash L) 58).toNat) := by
      refine ⟨_, c, ?_, fun _ => ⟨b, o, rfl, holds_take hL1 _⟩, .inr ⟨b, o, rfl⟩, by rw [List.length_take]; omega, hc2⟩
      rw [List.length_take, Nat.min_eq_left (by omega)]
    have hvv : SlV w (Lib.fromV (some ⟨b, o, none⟩) (noHash L).length c ((Lib.indexByte (noHash L) 58).toNat + 1)) ((noHash L).drop ((Lib.indexByte (noHash L) 58).toNat + 1)) :=
      fromV_slv (fun _ => ⟨b, o, rfl, hL1⟩) (.inr ⟨b, o, rfl⟩) c _ (by omega) hc2
    obtain ⟨kv', hk, hkc⟩ := bytesTrim_any hkv
    obtain ⟨vv', hv, hvc⟩ := bytesTrim_any hvv
    have ec : Lib.cutV (some ⟨b, o, none⟩) (noHash L).length c 1 (Lib.indexByte (noHash L) 58) = .tuple #[.slice (some ⟨b, o, none⟩) (Lib.indexByte (noHash L) 58).toNat c, Lib.fromV (some ⟨b, o, none⟩) (noHash L).length c ((Lib.indexByte (noHash L) 58).toNat + 1), .bool true] := by
      unfold Lib.cutV
      rw [if_pos h0]
    rw [ec] at hcut
    have hkl : (Lib.trimS ((noHash L).take (Lib.indexByte (noHash L) 58).toNat) [32, 9]).length ≤ 4294967280 := by
      obtain ⟨p, c', _, _, _, h3, h4⟩ := hk
      omega
    refine field_found b o _ c (noHash L).length _ w _ _ kv' vv' _ _ _ hc hz (indexByte_h h c) (hcut.mono ?_) hkc hvc ?_ (fun W hW => (hk.below hW).conv) (fun W hW => (hv.below hW).conv)
    · rintro e w' ⟨rfl, n, rfl⟩
      exact ⟨rfl, belowDrewN hb1 n⟩
    · intro W hW
      exact lower_l _ W hkl (hT.below hW)
end Go.Proofs.Qxb6615497aGreatDoor
