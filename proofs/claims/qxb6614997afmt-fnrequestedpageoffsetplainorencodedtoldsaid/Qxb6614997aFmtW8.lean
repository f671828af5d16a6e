import Derived.Test.Qxb6614997aFmtW7
namespace Go.Proofs.Qxb6614997aFmt
open Go.RowKit Go.Shelf Go.Extern.Stop Go.Stop Go.Extern

theorem bcell {W w1 : World} (hb : Below W.heap.size W w1) : (∀ b o, b < W.heap.size → w1.cell? ⟨b, o, none⟩ = W.cell? ⟨b, o, none⟩) ∧ (∀ b o, b < W.heap.size → w1.frozen? ⟨b, o, none⟩ = W.frozen? ⟨b, o, none⟩) :=
  ⟨fun b o h => hb.cell (p := ⟨b, o, none⟩) h, fun b o h => hb.frozen (p := ⟨b, o, none⟩) h⟩

/-- how requestedPage ends. -/
def PageEnds (r : Option (Int × Int)) (e : Ending) : Prop :=
  (r = none ∧ ∃ t x, e = .returned (.tuple #[.agg #[.int .i64 0, .int .i64 0], .iface t x])) ∨
  (∃ o l : Int, r = some (o, l) ∧ e = .returned (.tuple #[.agg #[.int .i64 o, .int .i64 l], .nilIface]))

theorem page_bad1 {q : List UInt8} {m : Int} (h : Pl.limitOf q m = none) : Pl.page q m = none := by unfold Pl.page; rw [h]
theorem page_bad2 {q : List UInt8} {m l : Int} (h : Pl.limitOf q m = some l) (ho : Pl.offsetOf q = none) : Pl.page q m = none := by unfold Pl.page; rw [h]; simp only [ho]
theorem page_ok {q : List UInt8} {m l o : Int} (h : Pl.limitOf q m = some l) (ho : Pl.offsetOf q = some o) : Pl.page q m = some (o, l) := by unfold Pl.page; rw [h]; simp only [ho]
theorem limit_none {q : List UInt8} {m : Int} (h : Pl.param Pl.limitN q = none) : Pl.limitOf q m = some 20 := by unfold Pl.limitOf; rw [h]
theorem limit_bad {q : List UInt8} {m : Int} (h : Pl.param Pl.limitN q = some none) : Pl.limitOf q m = none := by unfold Pl.limitOf; rw [h]
theorem limit_zero {q : List UInt8} {m : Int} (h : Pl.param Pl.limitN q = some (some 0)) : Pl.limitOf q m = none := by unfold Pl.limitOf; rw [h]; rfl
theorem limit_big {q : List UInt8} {m : Int} {n : Nat} (h : Pl.param Pl.limitN q = some (some n)) (hn : n ≠ 0) (hm : m < n) : Pl.limitOf q m = none := by unfold Pl.limitOf; rw [h]; simp [hn, hm]
theorem limit_ok {q : List UInt8} {m : Int} {n : Nat} (h : Pl.param Pl.limitN q = some (some n)) (hn : n ≠ 0) (hm : ¬ m < n) : Pl.limitOf q m = some n := by unfold Pl.limitOf; rw [h]; simp [hn, hm]

/-- the two structs of requestedPage in memory. -/
structure PG (w W : World) (l : Int) : Prop where
  below : Below w.heap.size w W
  size : w.heap.size + 1 < W.heap.size
  r0 : W.cell? ⟨w.heap.size, 0, none⟩ = some (.int .i64 0)
  r1 : W.cell? ⟨w.heap.size, 1, none⟩ = some (.int .i64 0)
  p0 : W.cell? ⟨w.heap.size + 1, 0, none⟩ = some (.int .i64 0)
  p1 : W.cell? ⟨w.heap.size + 1, 1, none⟩ = some (.int .i64 l)
  fr0 : W.frozen? ⟨w.heap.size, 0, none⟩ = false
  fr1 : W.frozen? ⟨w.heap.size, 1, none⟩ = false
  fp0 : W.frozen? ⟨w.heap.size + 1, 0, none⟩ = false
  fp1 : W.frozen? ⟨w.heap.size + 1, 1, none⟩ = false

theorem PG.start (w : World) : PG w ((w.alloc (Obj.cells #[Value.int IntKind.i64 0, Value.int IntKind.i64 0] 33)).alloc (Obj.cells #[Value.int IntKind.i64 0, Value.int IntKind.i64 20] 33)) 20 := by
  refine ⟨((Below.refl _ w).alloc (Nat.le_refl _) _).alloc (by simp) _, by simp, ?_, ?_, ?_, ?_, ?_, ?_, ?_, ?_⟩
  all_goals go_simp

theorem PG.later {w W W' : World} {l : Int} (h : PG w W l) (hb : Below W.heap.size W W') : PG w W' l := by
  have hz := h.size
  obtain ⟨hc, hf⟩ := bcell hb
  exact ⟨h.below.trans (hb.mono (by omega)), by have := hb.size; omega, (hc _ _ (by omega)).trans h.r0, (hc _ _ (by omega)).trans h.r1, (hc _ _ (by omega)).trans h.p0, (hc _ _ (by omega)).trans h.p1,
    (hf _ _ (by omega)).trans h.fr0, (hf _ _ (by omega)).trans h.fr1, (hf _ _ (by omega)).trans h.fp0, (hf _ _ (by omega)).trans h.fp1⟩

theorem PG.limit {w W : World} {l : Int} (h : PG w W l) (k : Int) : PG w (W.setCell ⟨w.heap.size + 1, 1, none⟩ (.int .i64 k)) k := by
  have hz := h.size
  have hb := (Below.refl w.heap.size W).setCell (p := ⟨w.heap.size + 1, 1, none⟩) (by show w.heap.size ≤ w.heap.size + 1; omega) (.int .i64 k)
  refine ⟨h.below.trans hb, by have := hb.size; omega, ?_, ?_, ?_, World.cell?_setCell_same' _ _ _ (by rw [h.p1]; rfl), ?_, ?_, ?_, ?_⟩
  · rw [cell_set_far _ _ _ _ _ _ (by omega)]; exact h.r0
  · rw [cell_set_far _ _ _ _ _ _ (by omega)]; exact h.r1
  · rw [World.cell?_setCell_other]
    · exact h.p0
    · intro e; injection e with _ e2; omega
  all_goals rw [World.frozen?_setCell]
  · exact h.fr0
  · exact h.fr1
  · exact h.fp0
  · exact h.fp1

theorem bad_below {w W : World} {u v : Value} (h : Below w.heap.size w W) : Below w.heap.size w ((W.setCell ⟨w.heap.size, 0, none⟩ u).setCell ⟨w.heap.size, 1, none⟩ v) :=
  (h.setCell (p := ⟨w.heap.size, 0, none⟩) (Nat.le_refl _) _).setCell (p := ⟨w.heap.size, 1, none⟩) (Nat.le_refl _) _
theorem ok_below {w W : World} {u v x : Value} (h : Below w.heap.size w W) : Below w.heap.size w (((W.setCell ⟨w.heap.size + 1, 0, none⟩ x).setCell ⟨w.heap.size, 0, none⟩ u).setCell ⟨w.heap.size, 1, none⟩ v) :=
  bad_below (h.setCell (p := ⟨w.heap.size + 1, 0, none⟩) (Nat.le_succ _) _)

set_option maxHeartbeats 2000000 in
theorem requestedPage_any (hU : UnescSaid) (F : Interp) (q : ByteArray) (m : Int) (w : World) (hF : F.answers w.tape) (hs : q.size ≤ 16777216) (hE : Env w) :
    Calls Tryf.prog 11 #[.string q, .int .i64 m] w fun e w' => PageEnds (Pl.page q.data.toList m) e ∧ Below w.heap.size w w' := by
  have HE := hide hE
  have HF := hide hF
  have HV := hide (fun W (hF : F.answers W.tape) (hE : Env W) => countParam_any hU F q ⟨#[108, 105, 109, 105, 116]⟩ W hF hs hE)
  have HO := hide (fun W (hF : F.answers W.tape) (hE : Env W) => requestedOffset_any hU F q W hF hs hE)
  clear hE hU hF
  have HS := hide (PG.start w)
  have HEat : Hid (∀ (W : World) (l : Int), PG w W l → Env W) := fun W l h => (unhide HE).below h.below (Nat.le_refl _)
  have HFat : Hid (∀ (W : World) (l : Int), PG w W l → F.answers W.tape) := fun W l h => by rw [h.below.tape]; exact unhide HF
  clear HE HF
  go_enter Tryf.func11, Tryf.ntmps11
  go_wp2_with fail
  refine (unhide HV _ (unhide HFat _ _ (unhide HS)) (unhide HEat _ _ (unhide HS))).mono ?_
  rintro e w1 ⟨⟨hr, rfl⟩ | ⟨hr, t, x, rfl⟩ | ⟨n, hn, hr, rfl⟩, hb⟩
  · have HP := hide ((unhide HS).later hb)
    have HL := hide (limit_none (m := m) hr)
    clear HS HV hr hb
    go_wp2_with fail
    refine (unhide HO _ (unhide HFat _ _ (unhide HP)) (unhide HEat _ _ (unhide HP))).mono ?_
    rintro e w2 ⟨⟨ho, t, x, rfl⟩ | ⟨o, ho0, ho1, ho, rfl⟩, hb2⟩
    · have hP2 := (unhide HP).later hb2
      have HR := hide (page_bad2 (unhide HL) ho)
      clear HP HO hb2 ho HL
      obtain ⟨hbe, hz, r0, r1, p0, p1, fr0, fr1, fp0, fp1⟩ := hP2
      have HB := hide hbe
      clear hbe
      go_wp2
      refine bodyPost_ret (v := .tuple #[.agg #[.int .i64 0, .int .i64 0], .iface t x]) (by simp [results, Tryf.results11, go_sem, r0, r1]) rfl ⟨.inl ⟨unhide HR, t, x, rfl⟩, bad_below (unhide HB)⟩
    · have hP2 := (unhide HP).later hb2
      have HR := hide (page_ok (unhide HL) ho)
      clear HP HO hb2 ho HL
      obtain ⟨hbe, hz, r0, r1, p0, p1, fr0, fr1, fp0, fp1⟩ := hP2
      have HB := hide hbe
      clear hbe
      go_wp2
      refine bodyPost_ret (v := .tuple #[.agg #[.int .i64 o, .int .i64 20], .nilIface]) (by simp [results, Tryf.results11, go_sem, r0, r1]) rfl ⟨.inr ⟨o, _, unhide HR, rfl⟩, ok_below (unhide HB)⟩
  · have hP2 := (unhide HS).later hb
    have HR := hide (page_bad1 (limit_bad (m := m) hr))
    clear HS HV hr hb HO
    obtain ⟨hbe, hz, r0, r1, p0, p1, fr0, fr1, fp0, fp1⟩ := hP2
    have HB := hide hbe
    clear hbe
    go_wp2
    refine bodyPost_ret (v := .tuple #[.agg #[.int .i64 0, .int .i64 0], .iface t x]) (by simp [results, Tryf.results11, go_sem, r0, r1]) rfl ⟨.inl ⟨unhide HR, t, x, rfl⟩, bad_below (unhide HB)⟩
  · have HP := hide ((unhide HS).later hb)
    by_cases h0 : n = 0
    · subst h0
      have HR := hide (page_bad1 (limit_zero (m := m) hr))
      have HZ := hide (range_zero F ⟨#[108, 105, 109, 105, 116]⟩ m w1 (unhide HFat _ _ (unhide HP)))
      clear HS HV hr hb HO
      go_wp2_with fail
      refine (unhide HZ).mono ?_
      rintro e w2 ⟨a, rfl, hb2⟩
      have hP2 := (unhide HP).later hb2
      clear HP hb2 HZ
      obtain ⟨hbe, hz, r0, r1, p0, p1, fr0, fr1, fp0, fp1⟩ := hP2
      have HB := hide hbe
      clear hbe
      go_wp2
      refine bodyPost_ret (v := .tuple #[.agg #[.int .i64 0, .int .i64 0], .iface 63 (.pointer (some a))]) (by simp [results, Tryf.results11, go_sem, r0, r1]) rfl ⟨.inl ⟨unhide HR, _, _, rfl⟩, bad_below (unhide HB)⟩
    · have hn0 : ((n : Int) == 0) = false := by simpa using h0
      by_cases hm : m < (n : Int)
      · have HR := hide (page_bad1 (limit_big (m := m) hr h0 hm))
        have HZ := hide (range_big F ⟨#[108, 105, 109, 105, 116]⟩ n m w1 (unhide HFat _ _ (unhide HP)) hn0 hm)
        clear HS HV hr hb HO
        go_wp2_with fail
        refine (unhide HZ).mono ?_
        rintro e w2 ⟨a, rfl, hb2⟩
        have hP2 := (unhide HP).later hb2
        clear HP hb2 HZ
        obtain ⟨hbe, hz, r0, r1, p0, p1, fr0, fr1, fp0, fp1⟩ := hP2
        have HB := hide hbe
        clear hbe
        go_wp2
        refine bodyPost_ret (v := .tuple #[.agg #[.int .i64 0, .int .i64 0], .iface 63 (.pointer (some a))]) (by simp [results, Tryf.results11, go_sem, r0, r1]) rfl ⟨.inl ⟨unhide HR, _, _, rfl⟩, bad_below (unhide HB)⟩
      · have HL := hide (limit_ok (m := m) hr h0 hm)
        have HZ := hide (range_fits ⟨#[108, 105, 109, 105, 116]⟩ n m w1 hn0 hm)
        obtain ⟨hbe, hz, r0, r1, p0, p1, fr0, fr1, fp0, fp1⟩ := unhide HP
        have HPk := hide ((unhide HP).limit n)
        clear HS HV hr hb hbe
        go_wp2_with fail
        refine (unhide HZ).mono ?_
        rintro e w2 ⟨rfl, rfl⟩
        clear HZ HP
        have HP := HPk
        clear HPk
        go_wp2_with fail
        refine (unhide HO _ (unhide HFat _ _ (unhide HP)) (unhide HEat _ _ (unhide HP))).mono ?_
        rintro e w2 ⟨⟨ho, t, x, rfl⟩ | ⟨o, ho0, ho1, ho, rfl⟩, hb2⟩
        · have hP2 := (unhide HP).later hb2
          have HR := hide (page_bad2 (unhide HL) ho)
          clear HP HO hb2 ho HL
          obtain ⟨hbe, hz, r0, r1, p0, p1, fr0, fr1, fp0, fp1⟩ := hP2
          have HB := hide hbe
          clear hbe
          go_wp2
          refine bodyPost_ret (v := .tuple #[.agg #[.int .i64 0, .int .i64 0], .iface t x]) (by simp [results, Tryf.results11, go_sem, r0, r1]) rfl ⟨.inl ⟨unhide HR, t, x, rfl⟩, bad_below (unhide HB)⟩
        · have hP2 := (unhide HP).later hb2
          have HR := hide (page_ok (unhide HL) ho)
          clear HP HO hb2 ho HL
          obtain ⟨hbe, hz, r0, r1, p0, p1, fr0, fr1, fp0, fp1⟩ := hP2
          have HB := hide hbe
          clear hbe
          go_wp2
          refine bodyPost_ret (v := .tuple #[.agg #[.int .i64 o, .int .i64 n], .nilIface]) (by simp [results, Tryf.results11, go_sem, r0, r1]) rfl ⟨.inr ⟨o, _, unhide HR, rfl⟩, ok_below (unhide HB)⟩

/-- how ZZrequestedPage ends. -/
def ZZEnds (r : Option (Int × Int)) (e : Ending) : Prop :=
  (r = none ∧ ∃ t x, e = .returned (.tuple #[.int .i64 0, .int .i64 0, .iface t x])) ∨
  (∃ o l : Int, r = some (o, l) ∧ e = .returned (.tuple #[.int .i64 o, .int .i64 l, .nilIface]))

theorem drewN_later {B : Nat} {w W : World} (h : Below B w W) (n : Nat) : Below B w (W.drewN n) := by
  induction n with
  | zero => exact h
  | succ n ih => exact ih.drew

set_option maxHeartbeats 2000000 in
theorem zzPage_any (hU : UnescSaid) (F : Interp) (q : ByteArray) (m : Int) (w : World) (hF : F.answers w.tape) (hs : q.size ≤ 16777216) (hE : Env w) :
    Calls Tryf.prog 6 #[.string q, .int .i64 m] w fun e w' => ZZEnds (Pl.page q.data.toList m) e ∧ Below w.heap.size w w' := by
  have HV := hide (requestedPage_any hU F q m w hF hs hE)
  clear hE hU hF
  go_enter Tryf.func6, Tryf.ntmps6
  go_wp2_with fail
  refine (unhide HV).mono ?_
  rintro e w1 ⟨⟨hr, t, x, rfl⟩ | ⟨o, l, hr, rfl⟩, hb⟩
  · have HR := hide hr
    have HB := hide hb
    clear hr hb HV
    go_wp2_with fail
    go_quiet (fail)
    go_wp2
    go_ret3
    exact ⟨.inl ⟨unhide HR, t, x, rfl⟩, drewN_later ((unhide HB).alloc (unhide HB).size _) _⟩
  · have HR := hide hr
    have HB := hide hb
    clear hr hb HV
    go_wp2_with fail
    go_quiet (fail)
    go_wp2
    go_ret3
    exact ⟨.inr ⟨o, l, unhide HR, rfl⟩, drewN_later ((unhide HB).alloc (unhide HB).size _) _⟩
end Go.Proofs.Qxb6614997aFmt
