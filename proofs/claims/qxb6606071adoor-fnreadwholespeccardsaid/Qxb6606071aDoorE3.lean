import Derived.Test.Qxb6606071aDoorE2
/- parseFloat64. -/
namespace Go.Proofs.Qxb6606071aDoor.Fl
open Go Go.RowKit

theorem Pow10.below {a : Nat} {w w' : World} (h : Pow10 w) (ha : 11 < a) (hb : Below a w w') : Pow10 w' :=
  ⟨fun n hn => (hb.cell (p := ⟨11, n * 2, none⟩) ha).trans (h.hi n hn), fun n hn => (hb.cell (p := ⟨11, n * 2 + 1, none⟩) ha).trans (h.lo n hn)⟩

def pfU (d : Int) (c : Nat) (n s : Nat) : Int := uscaleF (IntKind.u64.wrap (d * 2 ^ c)) (ptHi n) (ptLo n) s
def pfG (u : Int) : Int := boolI (decide (unminF 9007199254740992 ≤ u))
def pfV (u : Int) : Int := bits BinOp.or .u64 (u / 2 ^ (pfG u).toNat) (bits BinOp.and .u64 u 1)
/-- parseFloat64's answer. -/
def pfEnd (g u e : Int) : Nat × Bool := packF (bits BinOp.or .u64 g (roundF (pfV u))) (-(e - pfG u))
def pfF (g d p : Int) : Nat × Bool :=
  if 1074 ≤ 53 - (bitLen d.toNat : Int) - lp10 p then
    if 64 ≤ -(1074 - (64 - (bitLen d.toNat : Int)) + lp10 p + 3) then ((bits BinOp.or .u64 g 0).toNat, false)
    else pfEnd g (pfU d (64 - bitLen d.toNat) (p + 348).toNat (-(1074 - (64 - (bitLen d.toNat : Int)) + lp10 p + 3)).toNat) 1074
  else pfEnd g (pfU d (64 - bitLen d.toNat) (p + 348).toNat 8) (53 - (bitLen d.toNat : Int) - lp10 p)

def scal0 : Obj := .cells #[.int .u64 0, .int .u64 0, .int .i64 0] 122
theorem scal_new (w : World) : ScalAt w.heap.size 0 0 0 (w.alloc scal0) where
  c0 := by unfold scal0; rw [World.cell?_alloc_mark]; rfl
  c1 := by unfold scal0; rw [World.cell?_alloc_mark]; rfl
  c2 := by unfold scal0; rw [World.cell?_alloc_mark]; rfl
  f0 := by unfold scal0; rw [World.frozen?_alloc_mark]; rfl
  f1 := by unfold scal0; rw [World.frozen?_alloc_mark]; rfl
  f2 := by unfold scal0; rw [World.frozen?_alloc_mark]; rfl

set_option maxHeartbeats 1000000 in
set_option maxRecDepth 100000 in
theorem pf_low (g d p : Int) (n : Nat) (hp : p = n - 348) (hn : n < 696) (b : Nat) (lp : Int) (hb : b ≤ 64) (hlp : -1500 ≤ lp ∧ lp ≤ 1500)
    (w : World) (hT : Pow10 w) (h15 : 11 < w.heap.size) (_ : 1074 ≤ 53 - (b : Int) - lp) (hs : 64 ≤ -(1074 - (64 - (b : Int)) + lp + 3))
    (HL : Hid (∀ w, Calls Tryd.prog 67 #[.int .u64 d] w fun e w' => e = .returned (.int .i64 b) ∧ w' = w))
    (HP : Hid (∀ w, Calls Tryd.prog 68 #[.int .i64 p] w fun e w' => e = .returned (.int .i64 lp) ∧ w' = w)) :
    Calls Tryd.prog 58 #[.int .u64 d, .int .i64 p, .int .u64 g] w fun e w' => e = .returned (.tuple #[.float .f64 (bits BinOp.or .u64 g 0).toNat, errV false]) ∧ Below w.heap.size w w' := by
  have hB := (Below.refl w.heap.size w).alloc (Nat.le_refl _) scal0
  have HC := hide (prescale_any w.heap.size (1074 - (64 - (b : Int))) p lp (by omega) n hp hn (by omega) (w.alloc scal0) (hT.below h15 hB) 0 0 0 (scal_new w))
  have HB := hide hB
  have hd0 := frombits_run
  clear hB hT hp
  go_enter Tryd.func58, Tryd.ntmps58
  go_wp2_with (first | (go_at_call 67; refine (unhide HL _).mono ?_; rintro e w' ⟨rfl, hw⟩; obtain rfl := hw.symm) | (go_at_call 68; refine (unhide HP _).mono ?_; rintro e w' ⟨rfl, hw⟩; obtain rfl := hw.symm) | (go_at_call 69; refine (unhide HC).mono ?_; rintro e w' ⟨rfl, hA, hb2⟩; have q2 := hA.c2; have HA := hide hA; have HB2 := hide hb2; clear hA hb2))
  go_ret2
  exact ⟨rfl, (unhide HB).trans (unhide HB2)⟩

set_option maxHeartbeats 1000000 in
set_option maxRecDepth 100000 in
theorem pf_hi (g d p : Int) (n : Nat) (hp : p = n - 348) (hn : n < 696) (b c : Nat) (lp : Int) (hb : b ≤ 64) (hc : 64 - (b : Int) = c) (hlp : -1500 ≤ lp ∧ lp ≤ 1500)
    (w : World) (hT : Pow10 w) (h15 : 11 < w.heap.size) (h1 : ¬ (1074 ≤ 53 - (b : Int) - lp)) (s : Nat) (hs : s < 64) (hse : -(53 - (b : Int) - lp - c + lp + 3) = s)
    (HL : Hid (∀ w, Calls Tryd.prog 67 #[.int .u64 d] w fun e w' => e = .returned (.int .i64 b) ∧ w' = w))
    (HP : Hid (∀ w, Calls Tryd.prog 68 #[.int .i64 p] w fun e w' => e = .returned (.int .i64 lp) ∧ w' = w)) :
    Calls Tryd.prog 58 #[.int .u64 d, .int .i64 p, .int .u64 g] w fun r w' => r = .returned (.tuple #[.float .f64 (pfEnd g (pfU d c n s) (53 - (b : Int) - lp)).1, errV (pfEnd g (pfU d c n s) (53 - (b : Int) - lp)).2]) ∧ Below w.heap.size w w' := by
  have hB := (Below.refl w.heap.size w).alloc (Nat.le_refl _) scal0
  have HC := hide (prescale_any w.heap.size (53 - (b : Int) - lp - (c : Int)) p lp (by omega) n hp hn (by omega) (w.alloc scal0) (hT.below h15 hB) 0 0 0 (scal_new w))
  rw [hse] at HC
  have HB := hide hB
  clear hB hT hp hse
  have hc64 : c ≤ 64 := by omega
  have HU := hide (fun a w c0 c1 c2 => uscale_any (IntKind.u64.wrap (d * 2 ^ c)) (ptHi n) (ptLo n) (wrapU_range _) (pt_range n hn).1 (pt_range n hn).2 s hs a w c0 c1 c2)
  have HR := hide (uscaleF_range (IntKind.u64.wrap (d * 2 ^ c)) (ptHi n) (ptLo n) s)
  have HN := hide (unmin_any 9007199254740992)
  have HRo := hide round_any
  have HPk := hide pack64_any
  unfold pfU
  generalize uscaleF (IntKind.u64.wrap (d * 2 ^ c)) (ptHi n) (ptLo n) s = u at *
  have HG := hide (bool2I_any (decide (unminF 9007199254740992 ≤ u)))
  obtain ⟨g0, g1⟩ : 0 ≤ boolI (decide (unminF 9007199254740992 ≤ u)) ∧ boolI (decide (unminF 9007199254740992 ≤ u)) ≤ 1 := by unfold boolI; split <;> omega
  unfold pfEnd pfV pfG
  generalize boolI (decide (unminF 9007199254740992 ≤ u)) = g at *
  generalize unminF 9007199254740992 = um at *
  go_enter Tryd.func58, Tryd.ntmps58
  go_wp2_with (first | (go_at_call 67; refine (unhide HL _).mono ?_; rintro e w' ⟨rfl, hw⟩; obtain rfl := hw.symm) | (go_at_call 68; refine (unhide HP _).mono ?_; rintro e w' ⟨rfl, hw⟩; obtain rfl := hw.symm))
  refine (unhide HC).mono ?_
  rintro e w' ⟨rfl, hA, hb2⟩
  have q2 := hA.c2
  have HA := hide hA
  have HB2 := hide hb2
  clear hA hb2
  have hs64 : ¬ ((64 : Int) ≤ (s : Int)) := by omega
  go_wp2_with (first | (go_at_call 70; refine (unhide HU _ _ (unhide HA).c0 (unhide HA).c1 (unhide HA).c2).mono ?_; rintro e w'' ⟨rfl, q5, rfl⟩) | (go_at_call 72; refine (unhide HN _).mono ?_; rintro e w3 ⟨rfl, hw⟩; obtain rfl := hw.symm) | (go_at_call 71; refine (unhide HG _).mono ?_; rintro e w3 ⟨rfl, hw⟩; obtain rfl := hw.symm) | (go_at_call 74; refine (unhide HRo _ _).mono ?_; rintro e w3 ⟨rfl, hw⟩; obtain rfl := hw.symm) | (go_at_call 77; refine (unhide HPk _ _ (by omega) _).mono ?_; rintro e w3 ⟨rfl, hw⟩; obtain rfl := hw.symm))
  go_ret2
  exact ⟨rfl, belowDrewQ ((unhide HB).trans (unhide HB2)) _⟩

set_option maxHeartbeats 1000000 in
set_option maxRecDepth 100000 in
theorem pf_mid (g d p : Int) (n : Nat) (hp : p = n - 348) (hn : n < 696) (b c : Nat) (lp : Int) (hb : b ≤ 64) (hc : 64 - (b : Int) = c) (hlp : -1500 ≤ lp ∧ lp ≤ 1500)
    (w : World) (hT : Pow10 w) (h15 : 11 < w.heap.size) (h1 : 1074 ≤ 53 - (b : Int) - lp) (s : Nat) (hs : s < 64) (hse : -(1074 - c + lp + 3) = s)
    (HL : Hid (∀ w, Calls Tryd.prog 67 #[.int .u64 d] w fun e w' => e = .returned (.int .i64 b) ∧ w' = w))
    (HP : Hid (∀ w, Calls Tryd.prog 68 #[.int .i64 p] w fun e w' => e = .returned (.int .i64 lp) ∧ w' = w)) :
    Calls Tryd.prog 58 #[.int .u64 d, .int .i64 p, .int .u64 g] w fun r w' => r = .returned (.tuple #[.float .f64 (pfEnd g (pfU d c n s) (1074)).1, errV (pfEnd g (pfU d c n s) (1074)).2]) ∧ Below w.heap.size w w' := by
  have hB := (Below.refl w.heap.size w).alloc (Nat.le_refl _) scal0
  have HC := hide (prescale_any w.heap.size (1074 - (c : Int)) p lp (by omega) n hp hn (by omega) (w.alloc scal0) (hT.below h15 hB) 0 0 0 (scal_new w))
  rw [hse] at HC
  have HB := hide hB
  clear hB hT hp hse
  have hc64 : c ≤ 64 := by omega
  have HU := hide (fun a w c0 c1 c2 => uscale_any (IntKind.u64.wrap (d * 2 ^ c)) (ptHi n) (ptLo n) (wrapU_range _) (pt_range n hn).1 (pt_range n hn).2 s hs a w c0 c1 c2)
  have HR := hide (uscaleF_range (IntKind.u64.wrap (d * 2 ^ c)) (ptHi n) (ptLo n) s)
  have HN := hide (unmin_any 9007199254740992)
  have HRo := hide round_any
  have HPk := hide pack64_any
  unfold pfU
  generalize uscaleF (IntKind.u64.wrap (d * 2 ^ c)) (ptHi n) (ptLo n) s = u at *
  have HG := hide (bool2I_any (decide (unminF 9007199254740992 ≤ u)))
  obtain ⟨g0, g1⟩ : 0 ≤ boolI (decide (unminF 9007199254740992 ≤ u)) ∧ boolI (decide (unminF 9007199254740992 ≤ u)) ≤ 1 := by unfold boolI; split <;> omega
  unfold pfEnd pfV pfG
  generalize boolI (decide (unminF 9007199254740992 ≤ u)) = g at *
  generalize unminF 9007199254740992 = um at *
  go_enter Tryd.func58, Tryd.ntmps58
  go_wp2_with (first | (go_at_call 67; refine (unhide HL _).mono ?_; rintro e w' ⟨rfl, hw⟩; obtain rfl := hw.symm) | (go_at_call 68; refine (unhide HP _).mono ?_; rintro e w' ⟨rfl, hw⟩; obtain rfl := hw.symm))
  refine (unhide HC).mono ?_
  rintro e w' ⟨rfl, hA, hb2⟩
  have q2 := hA.c2
  have HA := hide hA
  have HB2 := hide hb2
  clear hA hb2
  have hs64 : ¬ ((64 : Int) ≤ (s : Int)) := by omega
  go_wp2_with (first | (go_at_call 70; refine (unhide HU _ _ (unhide HA).c0 (unhide HA).c1 (unhide HA).c2).mono ?_; rintro e w'' ⟨rfl, q5, rfl⟩) | (go_at_call 72; refine (unhide HN _).mono ?_; rintro e w3 ⟨rfl, hw⟩; obtain rfl := hw.symm) | (go_at_call 71; refine (unhide HG _).mono ?_; rintro e w3 ⟨rfl, hw⟩; obtain rfl := hw.symm) | (go_at_call 74; refine (unhide HRo _ _).mono ?_; rintro e w3 ⟨rfl, hw⟩; obtain rfl := hw.symm) | (go_at_call 77; refine (unhide HPk _ _ (by omega) _).mono ?_; rintro e w3 ⟨rfl, hw⟩; obtain rfl := hw.symm))
  go_ret2
  exact ⟨rfl, belowDrewQ ((unhide HB).trans (unhide HB2)) _⟩

/-- parseFloat64 at a sign. -/
theorem parseFloat64_any (g d p : Int) (hd : 0 ≤ d ∧ d < 18446744073709551616) (hp : -345 ≤ p ∧ p ≤ 310) (w : World) (hT : Pow10 w) (h15 : 11 < w.heap.size) :
    Calls Tryd.prog 58 #[.int .u64 d, .int .i64 p, .int .u64 g] w fun r w' => r = .returned (.tuple #[.float .f64 (pfF g d p).1, errV (pfF g d p).2]) ∧ Below w.heap.size w w' := by
  have hb := bitLen_le64 d.toNat (by omega)
  obtain ⟨n, hn⟩ : ∃ n : Nat, p + 348 = n := ⟨(p + 348).toNat, by omega⟩
  have hpn : p = n - 348 := by omega
  have hn6 : n < 696 := by omega
  have hlp : -1500 ≤ lp10 p ∧ lp10 p ≤ 1500 := by unfold lp10; omega
  have HL := hide (fun w => len64_any d hd w)
  have HP := hide (fun w => log2Pow10_any p (by omega) w)
  have hc : 64 - (bitLen d.toNat : Int) = ((64 - bitLen d.toNat : Nat) : Int) := by omega
  have hnt : (p + 348).toNat = n := by omega
  unfold pfF
  rw [hnt]
  by_cases h1 : 1074 ≤ 53 - (bitLen d.toNat : Int) - lp10 p
  · rw [if_pos h1]
    by_cases h2 : 64 ≤ -(1074 - (64 - (bitLen d.toNat : Int)) + lp10 p + 3)
    · rw [if_pos h2]
      exact pf_low g d p n hpn hn6 _ _ hb hlp w hT h15 h1 h2 HL HP
    · rw [if_neg h2]
      exact pf_mid g d p n hpn hn6 _ _ _ hb hc hlp w hT h15 h1 _ (by omega) (by omega) HL HP
  · rw [if_neg h1]
    exact pf_hi g d p n hpn hn6 _ _ _ hb hc hlp w hT h15 h1 _ (by omega) (by omega) HL HP
end Go.Proofs.Qxb6606071aDoor.Fl
