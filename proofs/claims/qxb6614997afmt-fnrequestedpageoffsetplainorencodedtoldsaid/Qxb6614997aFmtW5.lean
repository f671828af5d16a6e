import Derived.Test.Qxb6614997aFmtW3
import Derived.Lib.SmallJoins
namespace Go.Proofs.Qxb6614997aFmt
open Go.RowKit Go.Shelf
attribute [local go_sem] Oper.semAt_some

/-- WHAT THE ROAD READS OF MEMORY: MaxLen, net/url's table. -/
structure Env (w : World) : Prop where
  maxLen : ∃ m, w.cell? ⟨0, 0, none⟩ = some (.int .i64 m)
  tab : TabAt w

theorem Env.below {w w' : World} {n : Nat} (h : Env w) (hb : Below n w w') (hn : w.heap.size ≤ n) : Env w' := by
  have lt : ∀ (a : Addr) (v : Value), w.cell? a = some v → a.block < n := fun a v hc => by
    have : a.block < w.heap.size := by
      unfold World.cell? at hc
      cases ho : w.heap[a.block]? with
      | none => simp [ho] at hc
      | some o => exact (Array.getElem?_eq_some_iff.1 ho).1
    omega
  obtain ⟨m, hm⟩ := h.maxLen
  refine ⟨⟨m, ?_⟩, fun c hc => ?_⟩
  · rw [hb.cell (p := ⟨0, 0, none⟩) (lt _ _ hm)]; exact hm
  · have := h.tab c hc
    rw [hb.cell (p := ⟨1, c, none⟩) (lt _ _ this)]; exact this

/-- how unescape ends (the contract of net/url.unescape at mode 32). -/
def UnescSaid : Prop := ∀ (s : ByteArray) (w : World), s.size ≤ 16777216 → TabAt w → Calls Tryf.prog 34 #[.string s, .int .u8 32] w fun e w' =>
  (Pl.okEsc s.data.toList = true ∧ e = .returned (.tuple #[.string ⟨(Pl.dec s.data.toList).toArray⟩, .nilIface]) ∧ Below w.heap.size w w') ∨
  (Pl.okEsc s.data.toList = false ∧ ∃ x, e = .returned (.tuple #[.string ⟨#[]⟩, .iface 74 (.string x)]) ∧ Below w.heap.size w w')

set_option maxHeartbeats 1000000 in
theorem queryUnescape_any (hU : UnescSaid) (s : ByteArray) (w : World) (hs : s.size ≤ 16777216) (hE : Env w) :
    Calls Tryf.prog 29 #[.string s] w fun e w' =>
      (Pl.unesc s.data.toList = some (Pl.dec s.data.toList) ∧ e = .returned (.tuple #[.string ⟨(Pl.dec s.data.toList).toArray⟩, .nilIface]) ∧ Below w.heap.size w w') ∨
      (Pl.unesc s.data.toList = none ∧ ∃ x, e = .returned (.tuple #[.string ⟨#[]⟩, .iface 74 (.string x)]) ∧ Below w.heap.size w w') := by
  have HU := hide (hU s w hs hE.tab)
  clear hU hE
  go_enter Tryf.func29, Tryf.ntmps29
  go_wp2_with fail
  refine (unhide HU).mono ?_
  rintro e w' (⟨hok, rfl, hb⟩ | ⟨hok, x, rfl, hb⟩)
  · have HK := hide hok
    clear hok
    go_wp2
    go_ret2
    exact .inl ⟨by unfold Pl.unesc; rw [if_pos (unhide HK)], rfl, hb⟩
  · have HK := hide hok
    clear hok
    go_wp2
    go_ret2
    exact .inr ⟨by unfold Pl.unesc; rw [unhide HK]; rfl, x, rfl, hb⟩

theorem drewN_below (w : World) (n : Nat) : Below w.heap.size w (w.drewN n) := by
  induction n with
  | zero => exact Below.refl _ _
  | succ n ih => exact ih.drew

/-- strings.Cut at '='. -/
theorem cutEq_any (p : ByteArray) (w : World) (hs : p.size ≤ 16777216) (hE : Env w) :
    Calls Tryf.prog 28 #[.string p, .string ⟨#[61]⟩] w fun e w' => ∃ b, e = .returned (.tuple #[.string ⟨(Pl.keyOf p.data.toList).toArray⟩, .string ⟨(Pl.valOf p.data.toList).toArray⟩, .bool b]) ∧ Below w.heap.size w w' := by
  obtain ⟨m, hm⟩ := hE.maxLen
  refine (Tryf.strings_Cut p ⟨#[61]⟩ m w (by omega) hm).mono ?_
  rintro e w' ⟨rfl, n, rfl⟩
  obtain ⟨e1, e2⟩ := Pl.cut_eq p.data.toList
  exact ⟨(Lib.cut p.data.toList [61]).2.2, by rw [← e1, ← e2], drewN_below w n⟩

theorem key_size (p : ByteArray) : (⟨(Pl.keyOf p.data.toList).toArray⟩ : ByteArray).size ≤ p.size := by
  have := Pl.keyOf_length p.data.toList
  show (Pl.keyOf p.data.toList).toArray.size ≤ p.data.size
  simpa using this
theorem val_size (p : ByteArray) : (⟨(Pl.valOf p.data.toList).toArray⟩ : ByteArray).size ≤ p.size := by
  have := Pl.valOf_length p.data.toList
  show (Pl.valOf p.data.toList).toArray.size ≤ p.data.size
  simpa using this

theorem named_eq (p nm : ByteArray) (x : List UInt8) (h : Pl.unesc (Pl.keyOf p.data.toList) = some x) : (x == nm.toList) = Pl.isNamed nm.data.toList p.data.toList := by
  unfold Pl.isNamed
  rw [h, ByteArray.toList_eq]
  simp [Bool.beq_eq_decide_eq]
theorem named_no (p nm : ByteArray) (h : Pl.unesc (Pl.keyOf p.data.toList) = none) : Pl.isNamed nm.data.toList p.data.toList = false := by
  unfold Pl.isNamed
  rw [h]; rfl

set_option maxHeartbeats 1000000 in
theorem paramKey_any (hU : UnescSaid) (p nm : ByteArray) (w : World) (hs : p.size ≤ 16777216) (hE : Env w) :
    Calls Tryf.prog 26 #[.string p, .string nm] w fun e w' =>
      ∃ k, e = .returned (.tuple #[.string k, .bool (Pl.isNamed nm.data.toList p.data.toList)]) ∧ Below w.heap.size w w' := by
  have hcut := cutEq_any p w hs hE
  have hq := fun w' (h : Env w') => queryUnescape_any hU ⟨(Pl.keyOf p.data.toList).toArray⟩ w' (by have := key_size p; omega) h
  have HC := hide hcut
  have HQ := hide hq
  have HE := hide hE
  clear hcut hE hq hU
  have HN1 := hide (named_eq p nm)
  have HN2 := hide (named_no p nm)
  go_enter Tryf.func26, Tryf.ntmps26
  go_wp2_with fail
  refine (unhide HC).mono ?_
  rintro e w1 ⟨b, rfl, hb1⟩
  generalize Pl.valOf p.data.toList = va
  go_wp2_with fail
  refine (unhide HQ _ ((unhide HE).below hb1 (Nat.le_refl _))).mono ?_
  have HB1 := hide hb1
  clear hb1
  rintro e w2 (⟨hok, rfl, hb2⟩ | ⟨hok, x, rfl, hb2⟩)
  · have HK := hide (unhide HN1 _ hok)
    have HB := hide ((unhide HB1).trans (hb2.mono (unhide HB1).size))
    clear hok HN1 HN2 hb2 HB1
    go_wp2
    go_ret2
    exact ⟨_, by rw [← unhide HK]; rfl, unhide HB⟩
  · have HK := hide (unhide HN2 hok)
    have HB := hide ((unhide HB1).trans (hb2.mono (unhide HB1).size))
    clear hok HN1 HN2 hb2 HB1
    go_wp2
    go_ret2
    exact ⟨_, by rw [unhide HK]; rfl, unhide HB⟩

set_option maxHeartbeats 1000000 in
theorem pairValue_any (hU : UnescSaid) (p : ByteArray) (w : World) (hs : p.size ≤ 16777216) (hE : Env w) :
    Calls Tryf.prog 20 #[.string p] w fun e w' =>
      (∃ v, Pl.pairVal p.data.toList = some v ∧ v.length ≤ p.size ∧ e = .returned (.tuple #[.string ⟨v.toArray⟩, .nilIface]) ∧ Below w.heap.size w w') ∨
      (Pl.pairVal p.data.toList = none ∧ ∃ t x, e = .returned (.tuple #[.string ⟨#[]⟩, .iface t x]) ∧ Below w.heap.size w w') := by
  have hcn := fun w => Tryf.strings_Contains_one p 59 w
  have hse := Pl.semi_eq p.data.toList
  rw [hse] at hcn
  cases hsemi : p.data.toList.contains 59
  · rw [hsemi] at hcn
    have hpv : Pl.pairVal p.data.toList = Pl.unesc (Pl.valOf p.data.toList) := by unfold Pl.pairVal; rw [hsemi]; rfl
    have hcut := cutEq_any p w hs hE
    have hq := fun w' (h : Env w') => queryUnescape_any hU ⟨(Pl.valOf p.data.toList).toArray⟩ w' (by have := val_size p; omega) h
    have hvl : ∀ x, Pl.unesc (Pl.valOf p.data.toList) = some x → x.length ≤ p.size := by
      intro x hx
      unfold Pl.unesc at hx
      split at hx
      · rename_i hok
        cases hx
        have h1 := Pl.dec_length_le _ hok
        have h2 := Pl.valOf_length p.data.toList
        have h3 : p.data.toList.length = p.size := by simp
        omega
      · cases hx
    have HC := hide hcut
    have HQ := hide hq
    have HE := hide hE
    have HN := hide hcn
    have HV := hide hpv
    have HL := hide hvl
    clear hcut hE hq hU hcn hsemi hse hpv hvl
    go_enter Tryf.func20, Tryf.ntmps20
    go_wp2_with fail
    refine (unhide HN _).mono ?_
    rintro e w' ⟨rfl, rfl⟩
    go_wp2_with fail
    refine (unhide HC).mono ?_
    rintro e w1 ⟨b, rfl, hb1⟩
    generalize Pl.keyOf p.data.toList = ka
    go_wp2_with fail
    refine (unhide HQ _ ((unhide HE).below hb1 (Nat.le_refl _))).mono ?_
    have HB1 := hide hb1
    clear hb1
    rintro e w2 (⟨hok, rfl, hb2⟩ | ⟨hok, x, rfl, hb2⟩)
    · have HK := hide hok
      have HB := hide ((unhide HB1).trans (hb2.mono (unhide HB1).size))
      clear hok hb2 HB1
      go_wp2
      go_ret2
      exact .inl ⟨_, by rw [unhide HV]; exact unhide HK, unhide HL _ (unhide HK), rfl, unhide HB⟩
    · have HK := hide hok
      have HB := hide ((unhide HB1).trans (hb2.mono (unhide HB1).size))
      clear hok hb2 HB1
      go_wp2
      go_ret2
      exact .inr ⟨by rw [unhide HV]; exact unhide HK, _, _, rfl, unhide HB⟩
  · rw [hsemi] at hcn
    have hpv : Pl.pairVal p.data.toList = none := by unfold Pl.pairVal; rw [hsemi]; rfl
    have HN := hide hcn
    have HV := hide hpv
    clear hcn hsemi hse hpv hU hE
    go_enter Tryf.func20, Tryf.ntmps20
    go_wp2_with fail
    refine (unhide HN _).mono ?_
    rintro e w' ⟨rfl, rfl⟩
    go_wp2
    go_ret2
    exact .inr ⟨unhide HV, _, _, rfl, (Below.refl _ _).alloc (Nat.le_refl _) _⟩
end Go.Proofs.Qxb6614997aFmt
