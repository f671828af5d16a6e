import Derived.Test.Qxb6615497aGreatDoorG20
/- parseRobots at every body: nil; a row of bytes. -/
namespace Go.Proofs.Qxb6615497aGreatDoor
open Go.RowKit Go.Lib

set_option maxHeartbeats 4000000 in
set_option maxRecDepth 1000000 in
theorem fieldsFunc_nil (w : World) :
    Calls Tryz.prog 26 #[.slice none 0 0, .func (.func 19) #[] #[]] w fun e w' => ∃ A, e = .returned (.slice (some ⟨A, 0, none⟩) 0 0) ∧ w.heap.size ≤ A ∧ A < w'.heap.size ∧ Below w.heap.size w w' := by
  obtain ⟨i0, hi, hz0, hz1, hz2⟩ := info_parts (P := Tryz.prog) (e := 84) (z := .agg #[.int .i64 0, .int .i64 0]) (size := 2) (bytes := 16) (by kernel_rfl)
  obtain ⟨W0, hmk, hown0, hg0⟩ := run_make_own (P := Tryz.prog) w w.heap.size 80 84 i0 _ 2 Tryz.underlying80 hi hz0 hz1 .i64 .i64 32 (by rw [hz2]; decide) (by unfold maxLen; decide) (Nat.le_refl _)
  rw [show ((32 : Nat) : Int) = 32 from rfl] at hmk
  have hb0 : Below w.heap.size w W0 := (Below.refl _ w).grown hg0 (Nat.le_refl _) (fun k hk => by cases hk)
  go_enter Tryz.func26, Tryz.ntmps26
  go_wp2
  go_loopg [5, 6, 7] 0 (fun gf s5 s6 s7 wx => s7 = .int .i64 0 ∧ s6 = .int .i64 (-1) ∧ wx.ownsRow w.heap.size 84 2 s5 0 [] ∧ Below w.heap.size w wx ∧ s5 ≠ .slice none 0 0)
  case atStart => exact ⟨rfl, rfl, hown0, hb0, (fun h => by cases h)⟩
  case round =>
    obtain ⟨rfl, rfl, hown, hbw, hnn⟩ := hrel
    obtain ⟨g5, cap5, rfl⟩ : ∃ g5 cap5, u5 = .slice (some ⟨g5, 0, none⟩) 0 cap5 := by
      rcases hown.2 with ⟨h, _⟩ | ⟨g5, cap5, _, h, _⟩
      · exact absurd h hnn
      · exact ⟨g5, cap5, h⟩
    obtain ⟨i9, hi9', hz90, hz91, hz92⟩ := info_parts (P := Tryz.prog) (e := 22) (z := .slice none 0 0) (size := 1) (bytes := 24) (by kernel_rfl)
    obtain ⟨W5, hmk5, hown5, hgr5⟩ := run_make_full (P := Tryz.prog) wr w.heap.size 57 22 i9 _ 1 Tryz.underlying57 hi9' hz90 hz91 .i64 .i64 0 (by omega) (by unfold maxLen; omega) hbw.size
    have hb5 : Below w.heap.size w W5 := hbw.grown hgr5 hbw.size (fun k hk => by cases hk)
    have hlt5 := (hown5.lt wr.heap.size rfl).2
    rw [show ((0 : Nat) : Int) = 0 from rfl] at hmk5
    go_wp2
    go_loopg [56] 0 (fun gf s56 wx => s56 = .int .i64 0 ∧ wx = W5)
    case atStart => exact ⟨rfl, rfl⟩
    case round =>
      obtain ⟨rfl, rfl⟩ := hrel
      go_wp2
      go_ret
      exact ⟨_, rfl, hbw.size, hlt5, hb5⟩

theorem decodesAt_off {b off cap : Nat} {s : ByteArray} {w : World} (hB : BytesAt s b off w) (hT : Lib.Utf8Tabs 4 5 w) : DecodesAt b off cap s w := by
  intro W pos hbw hlt
  have cD := Any7.utf8_DecodeRune Tryz.laysD32 (s.extract pos s.size) b (off + pos) (cap - pos) W (Utf8Tabs_below hT hbw) ((hB.below hbw).tail pos)
  rw [Lib.tail_size] at cD
  rw [decodeGo_tail s pos hlt] at cD
  exact cD
theorem Holds.at {w : World} {b o : Nat} {s : ByteArray} (h : Holds w b o s.data.toList) : BytesAt s b o w := fun j hj => by
  have hj' : j < s.data.toList.length := by simpa using hj
  have e : s.data.toList[j]'hj' = s.get! j := by
    cases s with
    | mk d =>
      have hd : j < d.size := hj
      show d.toList[j] = d[j]!
      simp [hd]
  rw [h j (s.data.toList[j]'hj') (List.getElem?_eq_getElem hj'), e]

/-- all tables of this program that parseRobots reads. -/
structure AllTabs (w : World) : Prop where
  ft : FTabs w
  rv : RangeVar w
  fo : FoldTabs w
  fi : FieldTabs w
theorem AllTabs.below {w w' : World} (h : AllTabs w) (hb : Below w.heap.size w w') : AllTabs w' := by
  refine ⟨h.ft.stay (Nat.le_refl _) hb, ?_, h.fo.stay (Nat.le_refl _) hb, h.fi.below hb⟩
  obtain ⟨te, pe, hp⟩ := h.rv
  exact ⟨te, pe, (hb.cell (p := ⟨8, 0, none⟩) (block_lt_of_cell hp)).trans hp⟩

/-- the body without its mark. -/
theorem bom_cut (b n c : Nat) (l : List UInt8) (hn : n = l.length) (hc : l.length ≤ c) (w : World) (h : Holds w b 0 l) : ∃ off c', Lib.trimPrefixV (some ⟨b, 0, none⟩) n c (nums l) [239, 187, 191] = .slice (some ⟨b, off, none⟩) (noBom l).length c' ∧ (noBom l).length ≤ c' ∧ Holds w b off (noBom l) := by
  subst hn
  have e0 : Lib.bytesOf [239, 187, 191] = bomL := rfl
  show ∃ off c', Lib.bytesTrimPrefix b 0 l.length c (nums l) [239, 187, 191] = _ ∧ _
  unfold Lib.bytesTrimPrefix noBom
  rw [bytesOf_nums, e0]
  split
  · rename_i hp
    have hl : 3 ≤ l.length := by
      unfold Lib.hasPrefix at hp
      have := (List.isPrefixOf_iff_prefix.1 hp).length_le
      simpa [bomL] using this
    unfold Lib.sliceFrom
    by_cases h3 : c = 3
    · refine ⟨0, c - 3, ?_, by rw [List.length_drop]; omega, ?_⟩
      · rw [if_pos (by simpa using h3), List.length_drop]; rfl
      · have : l.drop 3 = [] := List.drop_eq_nil_of_le (by omega)
        rw [this]; intro i x hi; cases hi
    · refine ⟨3, c - 3, ?_, by rw [List.length_drop]; omega, ?_⟩
      · rw [if_neg (by simpa using h3), List.length_drop]; rfl
      · have := holds_drop h 3
        rw [Nat.zero_add] at this; exact this
  · exact ⟨0, c, rfl, hc, h⟩

theorem noBom_len (l : List UInt8) : (noBom l).length ≤ l.length := by
  unfold noBom
  split
  · rw [List.length_drop]; omega
  · exact Nat.le_refl _

/-- what parseRobots hands back. -/
def Parsed (tok : ByteArray) (l : List UInt8) (base : Nat) (e : Ending) (W : World) : Prop := ∃ p k, e = .returned (.agg #[.slice p (parseF tok (robotLines l)).1.length k, .int .i64 (parseF tok (robotLines l)).2]) ∧ RowIs base (.slice p (parseF tok (robotLines l)).1.length k) (parseF tok (robotLines l)).1 W

theorem parse_some (tok : ByteArray) (htok : tok.size ≤ 16777216) (b c : Nat) (l : List UInt8) (w : World) (hH : Holds w b 0 l) (hl : l.length ≤ 1048576) (hc : l.length ≤ c) (hT : AllTabs w) :
    Calls Tryz.prog 18 #[.slice (some ⟨b, 0, none⟩) l.length c, .string tok] w fun e w' => Parsed tok l (w.heap.size + 3) e w' ∧ Below w.heap.size w w' := by
  obtain ⟨off, c', htv, hc', hHn⟩ := bom_cut b l.length c l rfl hc w hH
  have hnl := noBom_len l
  obtain ⟨s, hs⟩ : ∃ s : ByteArray, s = ⟨(noBom l).toArray⟩ := ⟨_, rfl⟩
  have hsl : s.data.toList = noBom l := by rw [hs]
  have hss : s.size = (noBom l).length := by rw [hs]; show (noBom l).toArray.size = _; simp
  have hHs : Holds w b off s.data.toList := by rw [hsl]; exact hHn
  have hok := spans_ok s
  have hare := spans_are s
  rw [hsl] at hare
  have hls : robotLines l = (Lib.spansOfP isEol s).map (piece s) := hare.symm
  have hmem : ∀ (i : Nat) (x : Nat × Nat), (Lib.spansOfP isEol s)[i]? = some x → x.1 < x.2 ∧ x.2 ≤ s.size := fun i x h => hok.2 x (List.mem_of_getElem? h)
  have H := parse_walk (.slice (some ⟨b, 0, none⟩) l.length c) (.slice (some ⟨b, off, none⟩) (noBom l).length c') tok (robotLines l) ((Lib.spansOfP isEol s).map (fieldV b off)) w
    (by rw [hls, List.length_map, List.length_map]) (by rw [hls, List.length_map]; omega) htok
    (fun x hx => by
      obtain ⟨sp, _, rfl⟩ := List.mem_map.1 hx
      exact ⟨_, _, _, rfl⟩)
    (fun L hL => by
      rw [hls] at hL
      obtain ⟨sp, hsp, rfl⟩ := List.mem_map.1 hL
      have := hok.2 sp hsp
      rw [piece_len s sp this.2]; omega) hT.ft hT.rv hT.fo hT.fi.u8
    (fun W q hW q0 q1 q2 => by
      have H := Any.bytes_TrimPrefix_all Tryz.lays139 (some ⟨b, 0, none⟩) (some ⟨q, 0, none⟩) l.length c 3 3 (nums l) [239, 187, 191] W (nums_length _) rfl hc (hH.below hW).bytesIn
        (fun _ => ⟨q, 0, rfl, fun i hi => by
          match i, hi with
          | 0, _ => exact q0
          | 1, _ => exact q1
          | 2, _ => exact q2⟩)
      rw [htv] at H
      exact H)
    (fun W hW => by
      have H := fieldsFunc_any b off c' s W (by omega) (by omega) (decodesAt_off (Holds.at (hHs.below hW)) (hT.below hW).fi.u8)
      rw [hss] at H
      refine H.mono ?_
      rintro e W' ⟨A, rfl, hA, hown, hb⟩
      rw [List.length_map]
      refine ⟨A, rfl, hA, (hown.lt A rfl).2, fun i x hx => ?_, hb⟩
      have hi : i < (Lib.spansOfP isEol s).length := by
        have := (List.getElem?_eq_some_iff.1 hx).1
        simpa using this
      rw [hown.cellAt i (by omega), hx])
    (fun i L x hL hx W hW => by
      rw [hls, List.getElem?_map] at hL
      rw [List.getElem?_map] at hx
      cases hsp : (Lib.spansOfP isEol s)[i]? with
      | none => rw [hsp] at hL; cases hL
      | some sp =>
        rw [hsp] at hL hx
        simp only [Option.map_some, Option.some.injEq] at hL hx
        subst hL hx
        have hio := hmem i sp hsp
        have hpl := piece_len s sp hio.2
        have hHp : Holds W b (off + sp.1) (piece s sp) := holds_take (holds_drop (hHs.below hW) sp.1) _
        have := field_any (piece s sp) (sp.2 - sp.1) hHp (by omega) (by omega) (hT.below hW).fi
        rw [hpl] at this
        exact this) bomLaid
  refine H.mono ?_
  rintro e w' ⟨p, k, h1, h2, h3⟩
  exact ⟨⟨p, k, h1, h2⟩, h3⟩

theorem parse_nil (tok : ByteArray) (htok : tok.size ≤ 16777216) (w : World) (hT : AllTabs w) :
    Calls Tryz.prog 18 #[.slice none 0 0, .string tok] w fun e w' => Parsed tok [] (w.heap.size + 3) e w' ∧ Below w.heap.size w w' := by
  have H := parse_walk (.slice none 0 0) (.slice none 0 0) tok (robotLines []) [] w (by decide) (by decide) htok
    (fun x hx => by cases hx) (fun L hL => by have : robotLines [] = [] := by decide
                                              rw [this] at hL; cases hL) hT.ft hT.rv hT.fo hT.fi.u8
    (fun W q hW q0 q1 q2 => by
      have H := Any.bytes_TrimPrefix_all Tryz.lays139 none (some ⟨q, 0, none⟩) 0 0 3 3 [] [239, 187, 191] W rfl rfl (Nat.le_refl _) (fun h => absurd h (by omega))
        (fun _ => ⟨q, 0, rfl, fun i hi => by
          match i, hi with
          | 0, _ => exact q0
          | 1, _ => exact q1
          | 2, _ => exact q2⟩)
      exact H)
    (fun W hW => by
      refine (fieldsFunc_nil W).mono ?_
      rintro e W' ⟨A, rfl, hA, hAl, hb⟩
      exact ⟨A, rfl, hA, hAl, (fun i x hx => by cases hx), hb⟩)
    (fun i L x hL hx W hW => by cases hx) bomLaid
  refine H.mono ?_
  rintro e w' ⟨p, k, h1, h2, h3⟩
  exact ⟨⟨p, k, h1, h2⟩, h3⟩
end Go.Proofs.Qxb6615497aGreatDoor
