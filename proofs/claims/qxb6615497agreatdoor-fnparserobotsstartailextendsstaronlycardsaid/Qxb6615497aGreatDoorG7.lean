import Derived.Test.Qxb6615497aGreatDoorG6
/- compilePattern. -/
namespace Go.Proofs.Qxb6615497aGreatDoor
open Go.RowKit Go.Shelf
attribute [local go_sem] Oper.semAt_some

/-- the world where the loop of compilePattern begins. -/
theorem world5G (w : World) (q : ByteArray) (an : Bool) : ∃ W0 : World,
    (((((w.alloc (.cells #[.slice none 0 0, .bool false, .int .i64 0] 45)).alloc (.cells #[.slice none 0 0, .bool an, .int .i64 0] 45)).alloc (.cells #[.string q] 9)).alloc (.cells #[.string ⟨#[42]⟩] 9)).alloc (.cells #[.int .i64 0] 3)) = W0 ∧
    MidG w an [] W0 ∧ W0.heap.size = w.heap.size + 5 ∧
    W0.cell? ⟨w.heap.size + 1 + 1, 0, none⟩ = some (.string q) ∧ W0.frozen? ⟨w.heap.size + 1 + 1, 0, none⟩ = false ∧ W0.cell? ⟨w.heap.size + 1 + 1 + 1, 0, none⟩ = some (.string ⟨#[42]⟩) ∧ W0.cell? ⟨w.heap.size + 1 + 1 + 2, 0, none⟩ = some (.int .i64 0) := by
  refine ⟨_, rfl, ⟨?_, ?_, ?_, ?_, ?_, ?_, ?_, ?_, ?_, ?_, ?_, ?_, .slice none 0 0, [], ?_, World.ownsRow_nil _ _ _ _, fun u hu => by cases hu⟩, ?_, ?_, ?_, ?_, ?_⟩
  · exact (((((Below.refl _ w).alloc (Nat.le_refl _) _).alloc (by simp) _).alloc (by simp; omega) _).alloc (by simp; omega) _).alloc (by simp; omega) _
  all_goals go_simp


/-- a compiled pattern. -/
def PatV (e : Ending) : Prop := ∃ p n cap an len, e = .returned (.agg #[.slice p n cap, .bool an, .int .i64 len])

set_option maxRecDepth 100000 in
set_option maxHeartbeats 4000000 in
theorem cp_a_false (val q : ByteArray) (hq : val.size ≤ 16777215) (w : World) (HP : ByteArray → Bool) (HHP : Hid (∀ p W, Calls Tryz.prog 35 #[.string val, .string p] W fun e w' => e = .returned (.bool (HP p)) ∧ w' = W)) (h1 : HP ⟨#[47]⟩ = true) (HCS : Hid (∀ W, Calls Tryz.prog 36 #[.string val, .string ⟨#[36]⟩] W fun e w' => e = .returned (.tuple #[.string q, .bool false]) ∧ w' = W)) :
    Calls Tryz.prog 24 #[.string val] w fun e w' => PatV e ∧ Below w.heap.size w w' := by
  have HCP := hide (fun s W (hs : s.size ≤ 16777216) => canonicalPath_any s W hs)
  refine (callsIn_wide (n := 4)).1 ?_
  refine callsIn_of_wp_marks Tryz.func24 rfl trivial ?_ rfl
  simp only [Tryz.ntmps24, List.size_toArray, List.length_cons, List.length_nil, Nat.reduceAdd, Nat.reduceSub, Array.replicate_succ, Array.replicate_zero, List.push_toArray, List.append_toArray, List.nil_append, List.cons_append]
  gi_wp2_with (first
    | (refine ⟨trivial, ?_⟩; gi_at_call 35; refine (callsIn_wide.2 (unhide HHP _ _)).mono ?_; rintro e w' ⟨rfl, rfl⟩)
    | (refine ⟨trivial, ?_⟩; gi_at_call 36; refine (callsIn_wide.2 (unhide HCS _)).mono ?_; rintro e w' ⟨rfl, rfl⟩)
    | (refine ⟨trivial, ?_⟩; gi_at_call 37; refine (callsIn_wide.2 (splitSeq_any _ _)).mono ?_; rintro e w' ⟨rfl, rfl⟩)
    | (refine ⟨trivial, ?_⟩))
  obtain ⟨W0, hW0, hM0, hz0, c2, c2f, c3, c4⟩ := world5G w val false
  rw [hW0]
  clear hW0
  have hgiv := split_gives (w.heap.size + 1 + 1) (w.heap.size + 1 + 1 + 1) (w.heap.size + 1 + 1 + 2) val W0 (by omega) (by omega) (by omega) (by omega) (by omega) (by omega) c2 c2f c3 c4
  have hplen := pieces_len val
  have HPE := hide (pieces_each val)
  refine' range_gives (F := Fence.wide) (n := 4) rfl (by omega) (gf := 94) rfl trivial (enters_of Tryz.func94 (by kernel_rfl) rfl) (by show w.heap.size + 1 + 1 < _; omega) (fun p hp => by rcases hp with rfl | rfl | rfl <;> (show _ < W0.heap.size; simp only; omega)) hgiv
    (MidG w false) (fun _ _ => False) (midG_own w false _ (by omega)) (fun _ _ _ _ h _ _ => h) (midG_set w false) hM0 _ ?assign ?body ?done ?stop
  case assign =>
    intro l x W K hK
    gi_wp2
    exact hK
  case body =>
    rintro l pre x W hpx hI
    have hlen : pre.length ≤ 16777216 := by
      have := hpx.length_le
      rw [List.length_append, List.length_singleton] at this
      omega
    have hxs : x.size ≤ 16777216 := Nat.le_trans (unhide HPE x (hpx.subset (by simp))) (by omega)
    have hsz := hI.size
    have f0 := hI.pf0
    obtain ⟨v0, xs0, q0, hown0, _⟩ := hI.p0
    have HI := hide hI
    clear hI hpx hown0
    gi_wp2
    gi_region_with (refine ⟨trivial, ?_⟩; gi_at_call 38; refine (CallsIn.inRound l (callsIn_wide.2 (unhide HCP _ _ hxs))).mono ?_; rintro e w2 ⟨⟨r, rfl⟩, hb2⟩; obtain ⟨v, k0, k2, hlt2, hlt1, g, cap, w3, hrun, j3, jf3, HM⟩ := part_added (unhide HI) hlen r hb2; obtain rfl : v0 = v := Option.some.inj (q0.symm.trans k0); simp [go_sem] at hrun)
    all_goals exact ⟨(unhide HM x).2.1, (unhide HM x).2.2, (unhide HM x).1⟩
  case done =>
    rintro D W hD hI hK
    obtain ⟨v, xs, p0, hown, hstr⟩ := hI.p0
    have hpos := pieces_pos val
    obtain ⟨g, cap, rfl, hgg, hgl⟩ := hown.form hpos
    generalize (pieces val).length = n at *
    have HF0 := hide (⟨hI.below, hI.r0, hI.r1, hI.r2, hI.rf0, hI.rf1, hI.rf2, p0, hI.p1, hI.p2, hI.pf2, hown, hstr, hK⟩ : FinG w D g n cap xs false 0 W)
    have p2 := hI.p2
    have pf2 := hI.pf2
    clear hI hK hown hstr hgiv HPE HCP
    gi_wp2
    have HF1 := hide ((unhide HF0).set ((n : Int) - 1))
    clear HF0 p0 p2 pf2
    gi_loopw [8, 45] (fun s8 s45 wx => ∃ (i : Nat) (z : Int), s45 = .int .i64 i ∧ i ≤ n ∧ Hid (FinG w D g n cap xs false z wx))
      (fun s8 s45 _ => match s45 with | .int _ z => n - z.toNat | _ => 0)
    case atStart => exact ⟨0, _, rfl, by omega, HF1⟩
    case round =>
      obtain ⟨i, z, rfl, hin, HF⟩ := hrel
      have p0 := (unhide HF).p0
      have p1 := (unhide HF).p1
      have p2 := (unhide HF).p2
      have pf2 := (unhide HF).pf2
      by_cases hlt : i < n
      · have hiz : (i : Int) < (n : Int) := by omega
        obtain ⟨r, hr⟩ := (unhide HF).part i hlt
        gi_wp2
        refine ⟨⟨i + 1, _, by simp, by omega, hide ((unhide HF).set _)⟩, ?_⟩
        show n - ((i : Int) + 1).toNat < n - (i : Int).toNat
        omega
      · have hiz : ¬ ((i : Int) < (n : Int)) := by omega
        have HE := HF
        have r0 := (unhide HE).r0
        have r1 := (unhide HE).r1
        have r2 := (unhide HE).r2
        have rf0 := (unhide HE).rf0
        have rf1 := (unhide HE).rf1
        have rf2 := (unhide HE).rf2
        have HK := hide (unhide HE).hK
        have HB := hide (unhide HE).below
        gi_wp2
        generalize z = zz at *
        have k0 : (((wr.setCell ⟨w.heap.size, 0, none⟩ (.slice (some ⟨g, 0, none⟩) n cap)).setCell ⟨w.heap.size, 1, none⟩ (.bool false)).setCell ⟨w.heap.size, 2, none⟩ (.int .i64 zz)).cell? ⟨w.heap.size, 0, none⟩ = some (.slice (some ⟨g, 0, none⟩) n cap) := by
          rw [World.cell?_setCell_other _ _ _ _ (by simp), World.cell?_setCell_other _ _ _ _ (by simp)]; exact World.cell?_setCell_same' _ _ _ (by rw [r0]; rfl)
        have k1 : (((wr.setCell ⟨w.heap.size, 0, none⟩ (.slice (some ⟨g, 0, none⟩) n cap)).setCell ⟨w.heap.size, 1, none⟩ (.bool false)).setCell ⟨w.heap.size, 2, none⟩ (.int .i64 zz)).cell? ⟨w.heap.size, 1, none⟩ = some (.bool false) := by
          rw [World.cell?_setCell_other _ _ _ _ (by simp)]; exact World.cell?_setCell_same' _ _ _ (by rw [World.cell?_setCell_other _ _ _ _ (by simp), r1]; rfl)
        have k2 : (((wr.setCell ⟨w.heap.size, 0, none⟩ (.slice (some ⟨g, 0, none⟩) n cap)).setCell ⟨w.heap.size, 1, none⟩ (.bool false)).setCell ⟨w.heap.size, 2, none⟩ (.int .i64 zz)).cell? ⟨w.heap.size, 2, none⟩ = some (.int .i64 zz) :=
          World.cell?_setCell_same' _ _ _ (by rw [World.cell?_setCell_other _ _ _ _ (by simp), World.cell?_setCell_other _ _ _ _ (by simp), r2]; rfl)
        have hKX : (((wr.setCell ⟨w.heap.size, 0, none⟩ (.slice (some ⟨g, 0, none⟩) n cap)).setCell ⟨w.heap.size, 1, none⟩ (.bool false)).setCell ⟨w.heap.size, 2, none⟩ (.int .i64 zz)).heap[D]? = some (.deferred (some [])) :=
          (((KeepsOthers.setCell wr ⟨w.heap.size, 0, none⟩ (.slice (some ⟨g, 0, none⟩) n cap)).trans (KeepsOthers.setCell _ ⟨w.heap.size, 1, none⟩ (.bool false))).trans (KeepsOthers.setCell _ ⟨w.heap.size, 2, none⟩ (.int .i64 zz))).same D _ (unhide HK) rfl
        have hbX : Below w.heap.size w (((wr.setCell ⟨w.heap.size, 0, none⟩ (.slice (some ⟨g, 0, none⟩) n cap)).setCell ⟨w.heap.size, 1, none⟩ (.bool false)).setCell ⟨w.heap.size, 2, none⟩ (.int .i64 zz)) :=
          (((unhide HB).setCell (p := ⟨w.heap.size, 0, none⟩) (Nat.le_refl _) _).setCell (p := ⟨w.heap.size, 1, none⟩) (Nat.le_refl _) _).setCell (p := ⟨w.heap.size, 2, none⟩) (Nat.le_refl _) _
        generalize (((wr.setCell ⟨w.heap.size, 0, none⟩ (.slice (some ⟨g, 0, none⟩) n cap)).setCell ⟨w.heap.size, 1, none⟩ (.bool false)).setCell ⟨w.heap.size, 2, none⟩ (.int .i64 zz)) = X at k0 k1 k2 hKX hbX ⊢
        refine ⟨by simp, .inl ⟨_, _, rfl, run_takeDeferred hKX, ?_⟩⟩
        have h0 := cell_kept k0 (grownBy_putObj' _ D (.deferred none)) (fun r e => by cases e; exact ⟨_, hKX, rfl⟩)
        have h1 := cell_kept k1 (grownBy_putObj' _ D (.deferred none)) (fun r e => by cases e; exact ⟨_, hKX, rfl⟩)
        have h2 := cell_kept k2 (grownBy_putObj' _ D (.deferred none)) (fun r e => by cases e; exact ⟨_, hKX, rfl⟩)
        exact ⟨.agg #[.slice (some ⟨g, 0, none⟩) n cap, .bool false, .int .i64 zz], by simp [results, Tryz.f24, go_sem, h0, h1, h2], ⟨_, _, _, _, _, rfl⟩, hbX.trans (below_put _ D _ _ hKX (by omega))⟩
  case stop =>
    rintro D pre W hD hpx hI hK
    exact hI.elim

set_option maxRecDepth 100000 in
set_option maxHeartbeats 4000000 in
theorem cp_a_true (val q : ByteArray) (hq : q.size ≤ 16777215) (w : World) (HP : ByteArray → Bool) (HHP : Hid (∀ p W, Calls Tryz.prog 35 #[.string val, .string p] W fun e w' => e = .returned (.bool (HP p)) ∧ w' = W)) (h1 : HP ⟨#[47]⟩ = true) (HCS : Hid (∀ W, Calls Tryz.prog 36 #[.string val, .string ⟨#[36]⟩] W fun e w' => e = .returned (.tuple #[.string q, .bool true]) ∧ w' = W)) :
    Calls Tryz.prog 24 #[.string val] w fun e w' => PatV e ∧ Below w.heap.size w w' := by
  have HCP := hide (fun s W (hs : s.size ≤ 16777216) => canonicalPath_any s W hs)
  refine (callsIn_wide (n := 4)).1 ?_
  refine callsIn_of_wp_marks Tryz.func24 rfl trivial ?_ rfl
  simp only [Tryz.ntmps24, List.size_toArray, List.length_cons, List.length_nil, Nat.reduceAdd, Nat.reduceSub, Array.replicate_succ, Array.replicate_zero, List.push_toArray, List.append_toArray, List.nil_append, List.cons_append]
  gi_wp2_with (first
    | (refine ⟨trivial, ?_⟩; gi_at_call 35; refine (callsIn_wide.2 (unhide HHP _ _)).mono ?_; rintro e w' ⟨rfl, rfl⟩)
    | (refine ⟨trivial, ?_⟩; gi_at_call 36; refine (callsIn_wide.2 (unhide HCS _)).mono ?_; rintro e w' ⟨rfl, rfl⟩)
    | (refine ⟨trivial, ?_⟩; gi_at_call 37; refine (callsIn_wide.2 (splitSeq_any _ _)).mono ?_; rintro e w' ⟨rfl, rfl⟩)
    | (refine ⟨trivial, ?_⟩))
  obtain ⟨W0, hW0, hM0, hz0, c2, c2f, c3, c4⟩ := world5G w q true
  rw [hW0]
  clear hW0
  have hgiv := split_gives (w.heap.size + 1 + 1) (w.heap.size + 1 + 1 + 1) (w.heap.size + 1 + 1 + 2) q W0 (by omega) (by omega) (by omega) (by omega) (by omega) (by omega) c2 c2f c3 c4
  have hplen := pieces_len q
  have HPE := hide (pieces_each q)
  refine' range_gives (F := Fence.wide) (n := 4) rfl (by omega) (gf := 94) rfl trivial (enters_of Tryz.func94 (by kernel_rfl) rfl) (by show w.heap.size + 1 + 1 < _; omega) (fun p hp => by rcases hp with rfl | rfl | rfl <;> (show _ < W0.heap.size; simp only; omega)) hgiv
    (MidG w true) (fun _ _ => False) (midG_own w true _ (by omega)) (fun _ _ _ _ h _ _ => h) (midG_set w true) hM0 _ ?assign ?body ?done ?stop
  case assign =>
    intro l x W K hK
    gi_wp2
    exact hK
  case body =>
    rintro l pre x W hpx hI
    have hlen : pre.length ≤ 16777216 := by
      have := hpx.length_le
      rw [List.length_append, List.length_singleton] at this
      omega
    have hxs : x.size ≤ 16777216 := Nat.le_trans (unhide HPE x (hpx.subset (by simp))) (by omega)
    have hsz := hI.size
    have f0 := hI.pf0
    obtain ⟨v0, xs0, q0, hown0, _⟩ := hI.p0
    have HI := hide hI
    clear hI hpx hown0
    gi_wp2
    gi_region_with (refine ⟨trivial, ?_⟩; gi_at_call 38; refine (CallsIn.inRound l (callsIn_wide.2 (unhide HCP _ _ hxs))).mono ?_; rintro e w2 ⟨⟨r, rfl⟩, hb2⟩; obtain ⟨v, k0, k2, hlt2, hlt1, g, cap, w3, hrun, j3, jf3, HM⟩ := part_added (unhide HI) hlen r hb2; obtain rfl : v0 = v := Option.some.inj (q0.symm.trans k0); simp [go_sem] at hrun)
    all_goals exact ⟨(unhide HM x).2.1, (unhide HM x).2.2, (unhide HM x).1⟩
  case done =>
    rintro D W hD hI hK
    obtain ⟨v, xs, p0, hown, hstr⟩ := hI.p0
    have hpos := pieces_pos q
    obtain ⟨g, cap, rfl, hgg, hgl⟩ := hown.form hpos
    generalize (pieces q).length = n at *
    have HF0 := hide (⟨hI.below, hI.r0, hI.r1, hI.r2, hI.rf0, hI.rf1, hI.rf2, p0, hI.p1, hI.p2, hI.pf2, hown, hstr, hK⟩ : FinG w D g n cap xs true 0 W)
    have p2 := hI.p2
    have pf2 := hI.pf2
    clear hI hK hown hstr hgiv HPE HCP
    gi_wp2
    have HF1 := hide ((unhide HF0).set ((n : Int) - 1))
    clear HF0 p0 p2 pf2
    gi_loopw [8, 45] (fun s8 s45 wx => ∃ (i : Nat) (z : Int), s45 = .int .i64 i ∧ i ≤ n ∧ Hid (FinG w D g n cap xs true z wx))
      (fun s8 s45 _ => match s45 with | .int _ z => n - z.toNat | _ => 0)
    case atStart => exact ⟨0, _, rfl, by omega, HF1⟩
    case round =>
      obtain ⟨i, z, rfl, hin, HF⟩ := hrel
      have p0 := (unhide HF).p0
      have p1 := (unhide HF).p1
      have p2 := (unhide HF).p2
      have pf2 := (unhide HF).pf2
      by_cases hlt : i < n
      · have hiz : (i : Int) < (n : Int) := by omega
        obtain ⟨r, hr⟩ := (unhide HF).part i hlt
        gi_wp2
        refine ⟨⟨i + 1, _, by simp, by omega, hide ((unhide HF).set _)⟩, ?_⟩
        show n - ((i : Int) + 1).toNat < n - (i : Int).toNat
        omega
      · have hiz : ¬ ((i : Int) < (n : Int)) := by omega
        have HE := hide ((unhide HF).set (wrap64 (z + 1)))
        have r0 := (unhide HE).r0
        have r1 := (unhide HE).r1
        have r2 := (unhide HE).r2
        have rf0 := (unhide HE).rf0
        have rf1 := (unhide HE).rf1
        have rf2 := (unhide HE).rf2
        have HK := hide (unhide HE).hK
        have HB := hide (unhide HE).below
        gi_wp2
        generalize hzz : wrap64 (z + 1) = zz at *
        clear p0 p1 p2 pf2 HF
        generalize hwz : wr.setCell ⟨w.heap.size + 1, 2, none⟩ (.int .i64 zz) = wz at *
        clear hwz hzz
        have k0 : (((wz.setCell ⟨w.heap.size, 0, none⟩ (.slice (some ⟨g, 0, none⟩) n cap)).setCell ⟨w.heap.size, 1, none⟩ (.bool true)).setCell ⟨w.heap.size, 2, none⟩ (.int .i64 zz)).cell? ⟨w.heap.size, 0, none⟩ = some (.slice (some ⟨g, 0, none⟩) n cap) := by
          rw [World.cell?_setCell_other _ _ _ _ (by simp), World.cell?_setCell_other _ _ _ _ (by simp)]; exact World.cell?_setCell_same' _ _ _ (by rw [r0]; rfl)
        have k1 : (((wz.setCell ⟨w.heap.size, 0, none⟩ (.slice (some ⟨g, 0, none⟩) n cap)).setCell ⟨w.heap.size, 1, none⟩ (.bool true)).setCell ⟨w.heap.size, 2, none⟩ (.int .i64 zz)).cell? ⟨w.heap.size, 1, none⟩ = some (.bool true) := by
          rw [World.cell?_setCell_other _ _ _ _ (by simp)]; exact World.cell?_setCell_same' _ _ _ (by rw [World.cell?_setCell_other _ _ _ _ (by simp), r1]; rfl)
        have k2 : (((wz.setCell ⟨w.heap.size, 0, none⟩ (.slice (some ⟨g, 0, none⟩) n cap)).setCell ⟨w.heap.size, 1, none⟩ (.bool true)).setCell ⟨w.heap.size, 2, none⟩ (.int .i64 zz)).cell? ⟨w.heap.size, 2, none⟩ = some (.int .i64 zz) :=
          World.cell?_setCell_same' _ _ _ (by rw [World.cell?_setCell_other _ _ _ _ (by simp), World.cell?_setCell_other _ _ _ _ (by simp), r2]; rfl)
        have hKX : (((wz.setCell ⟨w.heap.size, 0, none⟩ (.slice (some ⟨g, 0, none⟩) n cap)).setCell ⟨w.heap.size, 1, none⟩ (.bool true)).setCell ⟨w.heap.size, 2, none⟩ (.int .i64 zz)).heap[D]? = some (.deferred (some [])) :=
          (((KeepsOthers.setCell wz ⟨w.heap.size, 0, none⟩ (.slice (some ⟨g, 0, none⟩) n cap)).trans (KeepsOthers.setCell _ ⟨w.heap.size, 1, none⟩ (.bool true))).trans (KeepsOthers.setCell _ ⟨w.heap.size, 2, none⟩ (.int .i64 zz))).same D _ (unhide HK) rfl
        have hbX : Below w.heap.size w (((wz.setCell ⟨w.heap.size, 0, none⟩ (.slice (some ⟨g, 0, none⟩) n cap)).setCell ⟨w.heap.size, 1, none⟩ (.bool true)).setCell ⟨w.heap.size, 2, none⟩ (.int .i64 zz)) :=
          (((unhide HB).setCell (p := ⟨w.heap.size, 0, none⟩) (Nat.le_refl _) _).setCell (p := ⟨w.heap.size, 1, none⟩) (Nat.le_refl _) _).setCell (p := ⟨w.heap.size, 2, none⟩) (Nat.le_refl _) _
        generalize (((wz.setCell ⟨w.heap.size, 0, none⟩ (.slice (some ⟨g, 0, none⟩) n cap)).setCell ⟨w.heap.size, 1, none⟩ (.bool true)).setCell ⟨w.heap.size, 2, none⟩ (.int .i64 zz)) = X at k0 k1 k2 hKX hbX ⊢
        refine ⟨by simp, .inl ⟨_, _, rfl, run_takeDeferred hKX, ?_⟩⟩
        have h0 := cell_kept k0 (grownBy_putObj' _ D (.deferred none)) (fun r e => by cases e; exact ⟨_, hKX, rfl⟩)
        have h1 := cell_kept k1 (grownBy_putObj' _ D (.deferred none)) (fun r e => by cases e; exact ⟨_, hKX, rfl⟩)
        have h2 := cell_kept k2 (grownBy_putObj' _ D (.deferred none)) (fun r e => by cases e; exact ⟨_, hKX, rfl⟩)
        exact ⟨.agg #[.slice (some ⟨g, 0, none⟩) n cap, .bool true, .int .i64 zz], by simp [results, Tryz.f24, go_sem, h0, h1, h2], ⟨_, _, _, _, _, rfl⟩, hbX.trans (below_put _ D _ _ hKX (by omega))⟩
  case stop =>
    rintro D pre W hD hpx hI hK
    exact hI.elim

set_option maxRecDepth 100000 in
set_option maxHeartbeats 4000000 in
theorem cp_b_false (val q : ByteArray) (hq : val.size ≤ 16777215) (w : World) (HP : ByteArray → Bool) (HHP : Hid (∀ p W, Calls Tryz.prog 35 #[.string val, .string p] W fun e w' => e = .returned (.bool (HP p)) ∧ w' = W)) (h1 : HP ⟨#[47]⟩ = false) (h2 : HP ⟨#[42]⟩ = true) (HCS : Hid (∀ W, Calls Tryz.prog 36 #[.string val, .string ⟨#[36]⟩] W fun e w' => e = .returned (.tuple #[.string q, .bool false]) ∧ w' = W)) :
    Calls Tryz.prog 24 #[.string val] w fun e w' => PatV e ∧ Below w.heap.size w w' := by
  have HCP := hide (fun s W (hs : s.size ≤ 16777216) => canonicalPath_any s W hs)
  refine (callsIn_wide (n := 4)).1 ?_
  refine callsIn_of_wp_marks Tryz.func24 rfl trivial ?_ rfl
  simp only [Tryz.ntmps24, List.size_toArray, List.length_cons, List.length_nil, Nat.reduceAdd, Nat.reduceSub, Array.replicate_succ, Array.replicate_zero, List.push_toArray, List.append_toArray, List.nil_append, List.cons_append]
  gi_wp2_with (first
    | (refine ⟨trivial, ?_⟩; gi_at_call 35; refine (callsIn_wide.2 (unhide HHP _ _)).mono ?_; rintro e w' ⟨rfl, rfl⟩)
    | (refine ⟨trivial, ?_⟩; gi_at_call 36; refine (callsIn_wide.2 (unhide HCS _)).mono ?_; rintro e w' ⟨rfl, rfl⟩)
    | (refine ⟨trivial, ?_⟩; gi_at_call 37; refine (callsIn_wide.2 (splitSeq_any _ _)).mono ?_; rintro e w' ⟨rfl, rfl⟩)
    | (refine ⟨trivial, ?_⟩))
  obtain ⟨W0, hW0, hM0, hz0, c2, c2f, c3, c4⟩ := world5G w val false
  rw [hW0]
  clear hW0
  have hgiv := split_gives (w.heap.size + 1 + 1) (w.heap.size + 1 + 1 + 1) (w.heap.size + 1 + 1 + 2) val W0 (by omega) (by omega) (by omega) (by omega) (by omega) (by omega) c2 c2f c3 c4
  have hplen := pieces_len val
  have HPE := hide (pieces_each val)
  refine' range_gives (F := Fence.wide) (n := 4) rfl (by omega) (gf := 94) rfl trivial (enters_of Tryz.func94 (by kernel_rfl) rfl) (by show w.heap.size + 1 + 1 < _; omega) (fun p hp => by rcases hp with rfl | rfl | rfl <;> (show _ < W0.heap.size; simp only; omega)) hgiv
    (MidG w false) (fun _ _ => False) (midG_own w false _ (by omega)) (fun _ _ _ _ h _ _ => h) (midG_set w false) hM0 _ ?assign ?body ?done ?stop
  case assign =>
    intro l x W K hK
    gi_wp2
    exact hK
  case body =>
    rintro l pre x W hpx hI
    have hlen : pre.length ≤ 16777216 := by
      have := hpx.length_le
      rw [List.length_append, List.length_singleton] at this
      omega
    have hxs : x.size ≤ 16777216 := Nat.le_trans (unhide HPE x (hpx.subset (by simp))) (by omega)
    have hsz := hI.size
    have f0 := hI.pf0
    obtain ⟨v0, xs0, q0, hown0, _⟩ := hI.p0
    have HI := hide hI
    clear hI hpx hown0
    gi_wp2
    gi_region_with (refine ⟨trivial, ?_⟩; gi_at_call 38; refine (CallsIn.inRound l (callsIn_wide.2 (unhide HCP _ _ hxs))).mono ?_; rintro e w2 ⟨⟨r, rfl⟩, hb2⟩; obtain ⟨v, k0, k2, hlt2, hlt1, g, cap, w3, hrun, j3, jf3, HM⟩ := part_added (unhide HI) hlen r hb2; obtain rfl : v0 = v := Option.some.inj (q0.symm.trans k0); simp [go_sem] at hrun)
    all_goals exact ⟨(unhide HM x).2.1, (unhide HM x).2.2, (unhide HM x).1⟩
  case done =>
    rintro D W hD hI hK
    obtain ⟨v, xs, p0, hown, hstr⟩ := hI.p0
    have hpos := pieces_pos val
    obtain ⟨g, cap, rfl, hgg, hgl⟩ := hown.form hpos
    generalize (pieces val).length = n at *
    have HF0 := hide (⟨hI.below, hI.r0, hI.r1, hI.r2, hI.rf0, hI.rf1, hI.rf2, p0, hI.p1, hI.p2, hI.pf2, hown, hstr, hK⟩ : FinG w D g n cap xs false 0 W)
    have p2 := hI.p2
    have pf2 := hI.pf2
    clear hI hK hown hstr hgiv HPE HCP
    gi_wp2
    have HF1 := hide ((unhide HF0).set ((n : Int) - 1))
    clear HF0 p0 p2 pf2
    gi_loopw [8, 45] (fun s8 s45 wx => ∃ (i : Nat) (z : Int), s45 = .int .i64 i ∧ i ≤ n ∧ Hid (FinG w D g n cap xs false z wx))
      (fun s8 s45 _ => match s45 with | .int _ z => n - z.toNat | _ => 0)
    case atStart => exact ⟨0, _, rfl, by omega, HF1⟩
    case round =>
      obtain ⟨i, z, rfl, hin, HF⟩ := hrel
      have p0 := (unhide HF).p0
      have p1 := (unhide HF).p1
      have p2 := (unhide HF).p2
      have pf2 := (unhide HF).pf2
      by_cases hlt : i < n
      · have hiz : (i : Int) < (n : Int) := by omega
        obtain ⟨r, hr⟩ := (unhide HF).part i hlt
        gi_wp2
        refine ⟨⟨i + 1, _, by simp, by omega, hide ((unhide HF).set _)⟩, ?_⟩
        show n - ((i : Int) + 1).toNat < n - (i : Int).toNat
        omega
      · have hiz : ¬ ((i : Int) < (n : Int)) := by omega
        have HE := HF
        have r0 := (unhide HE).r0
        have r1 := (unhide HE).r1
        have r2 := (unhide HE).r2
        have rf0 := (unhide HE).rf0
        have rf1 := (unhide HE).rf1
        have rf2 := (unhide HE).rf2
        have HK := hide (unhide HE).hK
        have HB := hide (unhide HE).below
        gi_wp2
        generalize z = zz at *
        have k0 : (((wr.setCell ⟨w.heap.size, 0, none⟩ (.slice (some ⟨g, 0, none⟩) n cap)).setCell ⟨w.heap.size, 1, none⟩ (.bool false)).setCell ⟨w.heap.size, 2, none⟩ (.int .i64 zz)).cell? ⟨w.heap.size, 0, none⟩ = some (.slice (some ⟨g, 0, none⟩) n cap) := by
          rw [World.cell?_setCell_other _ _ _ _ (by simp), World.cell?_setCell_other _ _ _ _ (by simp)]; exact World.cell?_setCell_same' _ _ _ (by rw [r0]; rfl)
        have k1 : (((wr.setCell ⟨w.heap.size, 0, none⟩ (.slice (some ⟨g, 0, none⟩) n cap)).setCell ⟨w.heap.size, 1, none⟩ (.bool false)).setCell ⟨w.heap.size, 2, none⟩ (.int .i64 zz)).cell? ⟨w.heap.size, 1, none⟩ = some (.bool false) := by
          rw [World.cell?_setCell_other _ _ _ _ (by simp)]; exact World.cell?_setCell_same' _ _ _ (by rw [World.cell?_setCell_other _ _ _ _ (by simp), r1]; rfl)
        have k2 : (((wr.setCell ⟨w.heap.size, 0, none⟩ (.slice (some ⟨g, 0, none⟩) n cap)).setCell ⟨w.heap.size, 1, none⟩ (.bool false)).setCell ⟨w.heap.size, 2, none⟩ (.int .i64 zz)).cell? ⟨w.heap.size, 2, none⟩ = some (.int .i64 zz) :=
          World.cell?_setCell_same' _ _ _ (by rw [World.cell?_setCell_other _ _ _ _ (by simp), World.cell?_setCell_other _ _ _ _ (by simp), r2]; rfl)
        have hKX : (((wr.setCell ⟨w.heap.size, 0, none⟩ (.slice (some ⟨g, 0, none⟩) n cap)).setCell ⟨w.heap.size, 1, none⟩ (.bool false)).setCell ⟨w.heap.size, 2, none⟩ (.int .i64 zz)).heap[D]? = some (.deferred (some [])) :=
          (((KeepsOthers.setCell wr ⟨w.heap.size, 0, none⟩ (.slice (some ⟨g, 0, none⟩) n cap)).trans (KeepsOthers.setCell _ ⟨w.heap.size, 1, none⟩ (.bool false))).trans (KeepsOthers.setCell _ ⟨w.heap.size, 2, none⟩ (.int .i64 zz))).same D _ (unhide HK) rfl
        have hbX : Below w.heap.size w (((wr.setCell ⟨w.heap.size, 0, none⟩ (.slice (some ⟨g, 0, none⟩) n cap)).setCell ⟨w.heap.size, 1, none⟩ (.bool false)).setCell ⟨w.heap.size, 2, none⟩ (.int .i64 zz)) :=
          (((unhide HB).setCell (p := ⟨w.heap.size, 0, none⟩) (Nat.le_refl _) _).setCell (p := ⟨w.heap.size, 1, none⟩) (Nat.le_refl _) _).setCell (p := ⟨w.heap.size, 2, none⟩) (Nat.le_refl _) _
        generalize (((wr.setCell ⟨w.heap.size, 0, none⟩ (.slice (some ⟨g, 0, none⟩) n cap)).setCell ⟨w.heap.size, 1, none⟩ (.bool false)).setCell ⟨w.heap.size, 2, none⟩ (.int .i64 zz)) = X at k0 k1 k2 hKX hbX ⊢
        refine ⟨by simp, .inl ⟨_, _, rfl, run_takeDeferred hKX, ?_⟩⟩
        have h0 := cell_kept k0 (grownBy_putObj' _ D (.deferred none)) (fun r e => by cases e; exact ⟨_, hKX, rfl⟩)
        have h1 := cell_kept k1 (grownBy_putObj' _ D (.deferred none)) (fun r e => by cases e; exact ⟨_, hKX, rfl⟩)
        have h2 := cell_kept k2 (grownBy_putObj' _ D (.deferred none)) (fun r e => by cases e; exact ⟨_, hKX, rfl⟩)
        exact ⟨.agg #[.slice (some ⟨g, 0, none⟩) n cap, .bool false, .int .i64 zz], by simp [results, Tryz.f24, go_sem, h0, h1, h2], ⟨_, _, _, _, _, rfl⟩, hbX.trans (below_put _ D _ _ hKX (by omega))⟩
  case stop =>
    rintro D pre W hD hpx hI hK
    exact hI.elim

set_option maxRecDepth 100000 in
set_option maxHeartbeats 4000000 in
theorem cp_b_true (val q : ByteArray) (hq : q.size ≤ 16777215) (w : World) (HP : ByteArray → Bool) (HHP : Hid (∀ p W, Calls Tryz.prog 35 #[.string val, .string p] W fun e w' => e = .returned (.bool (HP p)) ∧ w' = W)) (h1 : HP ⟨#[47]⟩ = false) (h2 : HP ⟨#[42]⟩ = true) (HCS : Hid (∀ W, Calls Tryz.prog 36 #[.string val, .string ⟨#[36]⟩] W fun e w' => e = .returned (.tuple #[.string q, .bool true]) ∧ w' = W)) :
    Calls Tryz.prog 24 #[.string val] w fun e w' => PatV e ∧ Below w.heap.size w w' := by
  have HCP := hide (fun s W (hs : s.size ≤ 16777216) => canonicalPath_any s W hs)
  refine (callsIn_wide (n := 4)).1 ?_
  refine callsIn_of_wp_marks Tryz.func24 rfl trivial ?_ rfl
  simp only [Tryz.ntmps24, List.size_toArray, List.length_cons, List.length_nil, Nat.reduceAdd, Nat.reduceSub, Array.replicate_succ, Array.replicate_zero, List.push_toArray, List.append_toArray, List.nil_append, List.cons_append]
  gi_wp2_with (first
    | (refine ⟨trivial, ?_⟩; gi_at_call 35; refine (callsIn_wide.2 (unhide HHP _ _)).mono ?_; rintro e w' ⟨rfl, rfl⟩)
    | (refine ⟨trivial, ?_⟩; gi_at_call 36; refine (callsIn_wide.2 (unhide HCS _)).mono ?_; rintro e w' ⟨rfl, rfl⟩)
    | (refine ⟨trivial, ?_⟩; gi_at_call 37; refine (callsIn_wide.2 (splitSeq_any _ _)).mono ?_; rintro e w' ⟨rfl, rfl⟩)
    | (refine ⟨trivial, ?_⟩))
  obtain ⟨W0, hW0, hM0, hz0, c2, c2f, c3, c4⟩ := world5G w q true
  rw [hW0]
  clear hW0
  have hgiv := split_gives (w.heap.size + 1 + 1) (w.heap.size + 1 + 1 + 1) (w.heap.size + 1 + 1 + 2) q W0 (by omega) (by omega) (by omega) (by omega) (by omega) (by omega) c2 c2f c3 c4
  have hplen := pieces_len q
  have HPE := hide (pieces_each q)
  refine' range_gives (F := Fence.wide) (n := 4) rfl (by omega) (gf := 94) rfl trivial (enters_of Tryz.func94 (by kernel_rfl) rfl) (by show w.heap.size + 1 + 1 < _; omega) (fun p hp => by rcases hp with rfl | rfl | rfl <;> (show _ < W0.heap.size; simp only; omega)) hgiv
    (MidG w true) (fun _ _ => False) (midG_own w true _ (by omega)) (fun _ _ _ _ h _ _ => h) (midG_set w true) hM0 _ ?assign ?body ?done ?stop
  case assign =>
    intro l x W K hK
    gi_wp2
    exact hK
  case body =>
    rintro l pre x W hpx hI
    have hlen : pre.length ≤ 16777216 := by
      have := hpx.length_le
      rw [List.length_append, List.length_singleton] at this
      omega
    have hxs : x.size ≤ 16777216 := Nat.le_trans (unhide HPE x (hpx.subset (by simp))) (by omega)
    have hsz := hI.size
    have f0 := hI.pf0
    obtain ⟨v0, xs0, q0, hown0, _⟩ := hI.p0
    have HI := hide hI
    clear hI hpx hown0
    gi_wp2
    gi_region_with (refine ⟨trivial, ?_⟩; gi_at_call 38; refine (CallsIn.inRound l (callsIn_wide.2 (unhide HCP _ _ hxs))).mono ?_; rintro e w2 ⟨⟨r, rfl⟩, hb2⟩; obtain ⟨v, k0, k2, hlt2, hlt1, g, cap, w3, hrun, j3, jf3, HM⟩ := part_added (unhide HI) hlen r hb2; obtain rfl : v0 = v := Option.some.inj (q0.symm.trans k0); simp [go_sem] at hrun)
    all_goals exact ⟨(unhide HM x).2.1, (unhide HM x).2.2, (unhide HM x).1⟩
  case done =>
    rintro D W hD hI hK
    obtain ⟨v, xs, p0, hown, hstr⟩ := hI.p0
    have hpos := pieces_pos q
    obtain ⟨g, cap, rfl, hgg, hgl⟩ := hown.form hpos
    generalize (pieces q).length = n at *
    have HF0 := hide (⟨hI.below, hI.r0, hI.r1, hI.r2, hI.rf0, hI.rf1, hI.rf2, p0, hI.p1, hI.p2, hI.pf2, hown, hstr, hK⟩ : FinG w D g n cap xs true 0 W)
    have p2 := hI.p2
    have pf2 := hI.pf2
    clear hI hK hown hstr hgiv HPE HCP
    gi_wp2
    have HF1 := hide ((unhide HF0).set ((n : Int) - 1))
    clear HF0 p0 p2 pf2
    gi_loopw [8, 45] (fun s8 s45 wx => ∃ (i : Nat) (z : Int), s45 = .int .i64 i ∧ i ≤ n ∧ Hid (FinG w D g n cap xs true z wx))
      (fun s8 s45 _ => match s45 with | .int _ z => n - z.toNat | _ => 0)
    case atStart => exact ⟨0, _, rfl, by omega, HF1⟩
    case round =>
      obtain ⟨i, z, rfl, hin, HF⟩ := hrel
      have p0 := (unhide HF).p0
      have p1 := (unhide HF).p1
      have p2 := (unhide HF).p2
      have pf2 := (unhide HF).pf2
      by_cases hlt : i < n
      · have hiz : (i : Int) < (n : Int) := by omega
        obtain ⟨r, hr⟩ := (unhide HF).part i hlt
        gi_wp2
        refine ⟨⟨i + 1, _, by simp, by omega, hide ((unhide HF).set _)⟩, ?_⟩
        show n - ((i : Int) + 1).toNat < n - (i : Int).toNat
        omega
      · have hiz : ¬ ((i : Int) < (n : Int)) := by omega
        have HE := hide ((unhide HF).set (wrap64 (z + 1)))
        have r0 := (unhide HE).r0
        have r1 := (unhide HE).r1
        have r2 := (unhide HE).r2
        have rf0 := (unhide HE).rf0
        have rf1 := (unhide HE).rf1
        have rf2 := (unhide HE).rf2
        have HK := hide (unhide HE).hK
        have HB := hide (unhide HE).below
        gi_wp2
        generalize hzz : wrap64 (z + 1) = zz at *
        clear p0 p1 p2 pf2 HF
        generalize hwz : wr.setCell ⟨w.heap.size + 1, 2, none⟩ (.int .i64 zz) = wz at *
        clear hwz hzz
        have k0 : (((wz.setCell ⟨w.heap.size, 0, none⟩ (.slice (some ⟨g, 0, none⟩) n cap)).setCell ⟨w.heap.size, 1, none⟩ (.bool true)).setCell ⟨w.heap.size, 2, none⟩ (.int .i64 zz)).cell? ⟨w.heap.size, 0, none⟩ = some (.slice (some ⟨g, 0, none⟩) n cap) := by
          rw [World.cell?_setCell_other _ _ _ _ (by simp), World.cell?_setCell_other _ _ _ _ (by simp)]; exact World.cell?_setCell_same' _ _ _ (by rw [r0]; rfl)
        have k1 : (((wz.setCell ⟨w.heap.size, 0, none⟩ (.slice (some ⟨g, 0, none⟩) n cap)).setCell ⟨w.heap.size, 1, none⟩ (.bool true)).setCell ⟨w.heap.size, 2, none⟩ (.int .i64 zz)).cell? ⟨w.heap.size, 1, none⟩ = some (.bool true) := by
          rw [World.cell?_setCell_other _ _ _ _ (by simp)]; exact World.cell?_setCell_same' _ _ _ (by rw [World.cell?_setCell_other _ _ _ _ (by simp), r1]; rfl)
        have k2 : (((wz.setCell ⟨w.heap.size, 0, none⟩ (.slice (some ⟨g, 0, none⟩) n cap)).setCell ⟨w.heap.size, 1, none⟩ (.bool true)).setCell ⟨w.heap.size, 2, none⟩ (.int .i64 zz)).cell? ⟨w.heap.size, 2, none⟩ = some (.int .i64 zz) :=
          World.cell?_setCell_same' _ _ _ (by rw [World.cell?_setCell_other _ _ _ _ (by simp), World.cell?_setCell_other _ _ _ _ (by simp), r2]; rfl)
        have hKX : (((wz.setCell ⟨w.heap.size, 0, none⟩ (.slice (some ⟨g, 0, none⟩) n cap)).setCell ⟨w.heap.size, 1, none⟩ (.bool true)).setCell ⟨w.heap.size, 2, none⟩ (.int .i64 zz)).heap[D]? = some (.deferred (some [])) :=
          (((KeepsOthers.setCell wz ⟨w.heap.size, 0, none⟩ (.slice (some ⟨g, 0, none⟩) n cap)).trans (KeepsOthers.setCell _ ⟨w.heap.size, 1, none⟩ (.bool true))).trans (KeepsOthers.setCell _ ⟨w.heap.size, 2, none⟩ (.int .i64 zz))).same D _ (unhide HK) rfl
        have hbX : Below w.heap.size w (((wz.setCell ⟨w.heap.size, 0, none⟩ (.slice (some ⟨g, 0, none⟩) n cap)).setCell ⟨w.heap.size, 1, none⟩ (.bool true)).setCell ⟨w.heap.size, 2, none⟩ (.int .i64 zz)) :=
          (((unhide HB).setCell (p := ⟨w.heap.size, 0, none⟩) (Nat.le_refl _) _).setCell (p := ⟨w.heap.size, 1, none⟩) (Nat.le_refl _) _).setCell (p := ⟨w.heap.size, 2, none⟩) (Nat.le_refl _) _
        generalize (((wz.setCell ⟨w.heap.size, 0, none⟩ (.slice (some ⟨g, 0, none⟩) n cap)).setCell ⟨w.heap.size, 1, none⟩ (.bool true)).setCell ⟨w.heap.size, 2, none⟩ (.int .i64 zz)) = X at k0 k1 k2 hKX hbX ⊢
        refine ⟨by simp, .inl ⟨_, _, rfl, run_takeDeferred hKX, ?_⟩⟩
        have h0 := cell_kept k0 (grownBy_putObj' _ D (.deferred none)) (fun r e => by cases e; exact ⟨_, hKX, rfl⟩)
        have h1 := cell_kept k1 (grownBy_putObj' _ D (.deferred none)) (fun r e => by cases e; exact ⟨_, hKX, rfl⟩)
        have h2 := cell_kept k2 (grownBy_putObj' _ D (.deferred none)) (fun r e => by cases e; exact ⟨_, hKX, rfl⟩)
        exact ⟨.agg #[.slice (some ⟨g, 0, none⟩) n cap, .bool true, .int .i64 zz], by simp [results, Tryz.f24, go_sem, h0, h1, h2], ⟨_, _, _, _, _, rfl⟩, hbX.trans (below_put _ D _ _ hKX (by omega))⟩
  case stop =>
    rintro D pre W hD hpx hI hK
    exact hI.elim
end Go.Proofs.Qxb6615497aGreatDoor
