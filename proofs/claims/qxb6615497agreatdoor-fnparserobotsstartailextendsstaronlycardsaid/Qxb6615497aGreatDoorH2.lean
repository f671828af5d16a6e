import Derived.Test.Qxb6615497aGreatDoorH1
/- FnParseRobotsStarTailExtendsStarOnly: the walk, over its parser's contract. -/
namespace Go.Proofs.Qxb6615497aGreatDoor
open Go Go.RowKit

abbrev Grp2 := List (Bool × ByteArray) × Int

/-- the two bodies lie in W. -/
structure S0 (w : World) (s0 v8 : Value) (l l8 : List UInt8) (W : World) : Prop where
  below : Below w.heap.size w W
  b0 : BodyIs s0 l W
  b8 : BodyIs v8 l8 W
theorem S0.stay {w : World} {s0 v8 : Value} {l l8 : List UInt8} {W W' : World} (h : S0 w s0 v8 l l8 W) (hb : Below W.heap.size W W') : S0 w s0 v8 l l8 W' :=
  ⟨h.below.trans (hb.mono h.below.size), h.b0.below hb, h.b8.below hb⟩

theorem at_new {W : World} {p : Option Addr} {k : Nat} {g : Grp2} (hR : RuleCells p g.1 W) : AtG W.heap.size p k g (W.alloc (.cells #[.slice p g.1.length k, .int .i64 g.2] 26)) :=
  ⟨by simp, by simp, hR.below ((Below.refl _ W).alloc (Nat.le_refl _) _)⟩

/-- the groups laid so far. -/
def Sn (w : World) (s0 v8 : Value) (l l8 : List UInt8) (L : List (Nat × Option Addr × Nat × Grp2)) (W : World) : Prop := S0 w s0 v8 l l8 W ∧ ∀ x ∈ L, AtG x.1 x.2.1 x.2.2.1 x.2.2.2 W
theorem Sn.stay {w : World} {s0 v8 : Value} {l l8 : List UInt8} {L : List (Nat × Option Addr × Nat × Grp2)} {W W' : World} (h : Sn w s0 v8 l l8 L W) (hb : Below W.heap.size W W') : Sn w s0 v8 l l8 L W' :=
  ⟨h.1.stay hb, fun x hx => (h.2 x hx).below hb⟩
theorem Sn.add {w : World} {s0 v8 : Value} {l l8 : List UInt8} {L : List (Nat × Option Addr × Nat × Grp2)} {W W1 : World} {p : Option Addr} {k : Nat} {g : Grp2} (h : Sn w s0 v8 l l8 L W) (hb : Below W.heap.size W W1) (hR : RuleCells p g.1 W1) :
    Sn w s0 v8 l l8 ((W1.heap.size, p, k, g) :: L) (W1.alloc (.cells #[.slice p g.1.length k, .int .i64 g.2] 26)) := by
  have h2 := (h.stay hb).stay ((Below.refl _ W1).alloc (Nat.le_refl _) (.cells #[.slice p g.1.length k, .int .i64 g.2] 26))
  refine ⟨h2.1, fun x hx => ?_⟩
  rcases List.mem_cons.1 hx with rfl | hx
  · exact at_new hR
  · exact h2.2 x hx

/-- a group's two cells and its rules. -/
structure AtN (blk : Nat) (p : Option Addr) (k n : Nat) (d : Int) (rs : List (Bool × ByteArray)) (W : World) : Prop where
  c0 : W.cell? ⟨blk, 0, none⟩ = some (.slice p n k)
  c1 : W.cell? ⟨blk, 1, none⟩ = some (.int .i64 d)
  rs : RuleCells p rs W
theorem AtN.below {blk : Nat} {p : Option Addr} {k n : Nat} {d : Int} {rs : List (Bool × ByteArray)} {W W' : World} (h : AtN blk p k n d rs W) (hb : Below W.heap.size W W') : AtN blk p k n d rs W' :=
  ⟨(hb.cell (p := ⟨blk, 0, none⟩) (block_lt_of_cell h.c0)).trans h.c0, (hb.cell (p := ⟨blk, 1, none⟩) (block_lt_of_cell h.c1)).trans h.c1, h.rs.below hb⟩
theorem AtG.n {blk : Nat} {p : Option Addr} {k : Nat} {g : Grp2} {W : World} (h : AtG blk p k g W) {n : Nat} {d : Int} {rs : List (Bool × ByteArray)} (hn : g.1.length = n) (hd : g.2 = d) (hr : g.1 = rs) : AtN blk p k n d rs W := by
  subst hn hd hr
  exact ⟨h.c0, h.c1, h.rs⟩
theorem groupRule_n (p : Option Addr) (cap i n : Nat) (d : Int) (rs : List (Bool × ByteArray)) (al : Bool) (v : ByteArray) (w : World) (hn : rs.length = n) (h : RuleCells p rs w) (hi : rs[i]? = some (al, v)) :
    Calls Tryz.prog 8 #[.agg #[.slice p n cap, .int .i64 d], .int .i64 i] w fun e w' => e = .returned (.tuple #[.bool al, .string v]) ∧ Below w.heap.size w w' := by
  subst hn
  exact groupRule_is p cap i d rs al v w h hi

theorem wrapJ_id (z : Int) (h : -9223372036854775808 ≤ z ∧ z ≤ 9223372036854775807) : IntKind.i64.wrap z = z := by
  unfold IntKind.wrap
  simp [IntKind.signed, IntKind.bits]
  omega

/-- the four groups. -/
structure Four (w : World) (a9 : Nat) (p9 : Option Addr) (k9 nA : Nat) (dA : Int) (rA : List (Bool × ByteArray)) (a10 : Nat) (p10 : Option Addr) (k10 nB : Nat) (dB : Int) (rB : List (Bool × ByteArray)) (a11 : Nat) (p11 : Option Addr) (k11 nS : Nat) (dS : Int) (rS : List (Bool × ByteArray)) (a12 : Nat) (p12 : Option Addr) (k12 nT : Nat) (dT : Int) (rT : List (Bool × ByteArray)) (W : World) : Prop where
  below : Below w.heap.size w W
  a : AtN a9 p9 k9 nA dA rA W
  b : AtN a10 p10 k10 nB dB rB W
  s : AtN a11 p11 k11 nS dS rS W
  t : AtN a12 p12 k12 nT dT rT W
theorem Four.stay {w : World} {a9 a10 a11 a12 nA nB nS nT : Nat} {p9 p10 p11 p12 : Option Addr} {k9 k10 k11 k12 : Nat} {dA dB dS dT : Int} {rA rB rS rT : List (Bool × ByteArray)} {W W' : World} (h : Four w a9 p9 k9 nA dA rA a10 p10 k10 nB dB rB a11 p11 k11 nS dS rS a12 p12 k12 nT dT rT W) (hb : Below W.heap.size W W') :
    Four w a9 p9 k9 nA dA rA a10 p10 k10 nB dB rB a11 p11 k11 nS dS rS a12 p12 k12 nT dT rT W' :=
  ⟨h.below.trans (hb.mono h.below.size), h.a.below hb, h.b.below hb, h.s.below hb, h.t.below hb⟩
theorem Four.drew {w : World} {a9 a10 a11 a12 nA nB nS nT : Nat} {p9 p10 p11 p12 : Option Addr} {k9 k10 k11 k12 : Nat} {dA dB dS dT : Int} {rA rB rS rT : List (Bool × ByteArray)} {W : World} (h : Four w a9 p9 k9 nA dA rA a10 p10 k10 nB dB rB a11 p11 k11 nS dS rS a12 p12 k12 nT dT rT W) :
    Four w a9 p9 k9 nA dA rA a10 p10 k10 nB dB rB a11 p11 k11 nS dS rS a12 p12 k12 nT dT rT W.drew := h.stay (Below.refl _ W).drew

/-- the tail's text. -/
def tailS : ByteArray := ⟨#[10, 65, 108, 108, 111, 119, 58, 10, 85, 115, 101, 114, 45, 97, 103, 101, 110, 116, 58, 32, 42, 10, 68, 105, 115, 97, 108, 108, 111, 119, 58, 32, 47, 122, 122, 10]⟩

/-- the copy of the body. -/
theorem copy_laid (ad : Addr) (c : Nat) (l : List UInt8) (w : World) (hsrc : ∀ j x, l[j]? = some x → w.cell? (ad.add j) = some (.int .u8 (x.toNat : Int))) (hl : l.length ≤ 524288) :
    ∃ W1 W2, (Instr.makeSlice 22 (.int .i64 (l.length : Int)) (.int .i64 (l.length : Int))).run Tryz.prog w = .ok (.slice (some ⟨w.heap.size, 0, none⟩) l.length l.length) W1 ∧
      (∀ ty, (Builtin.copy_ #[22, 22] ty #[.slice (some ⟨w.heap.size, 0, none⟩) l.length l.length, .slice (some ad) l.length c]).run Tryz.prog W1 = .ok (.int .i64 (l.length : Int)) W2) ∧
      BodyIs (.slice (some ⟨w.heap.size, 0, none⟩) l.length l.length) l W2 ∧ Below w.heap.size w W2 := by
  obtain ⟨i0, hi, hz0, hz1, hzb⟩ := info5
  obtain ⟨W1, hmk, hown, hg⟩ := run_make_full (P := Tryz.prog) w w.heap.size 22 5 i0 (.int .u8 0) 1 Tryz.underlying22 hi hz0 hz1 .i64 .i64 l.length (by rw [hzb]; omega) (by unfold maxLen; omega) (Nat.le_refl _)
  have hb1 : Below w.heap.size w W1 := (Below.refl _ w).grown hg (Nat.le_refl _) (fun k hk => by cases hk)
  rcases hown.2 with ⟨h, _⟩ | ⟨g', cap', cur, h, _, hheap, h2, h3, hsz, _⟩
  · cases h
  injection h with e1 e2 e3
  injection e1 with e1
  injection e1 with e1
  subst e1 e3
  have hcp := fun ty => run_copy_row (P := Tryz.prog) W1 22 22 ty 5 w.heap.size 0 l.length l.length ad l.length c cur 5 (u8Cells l) Tryz.underlying22 (by rw [hi]; simp [hz1]) hheap (by rw [u8Cells_len]; exact (Nat.min_self _).symm) (fun j v hv => by
      obtain ⟨x, hx, rfl⟩ := u8Cells_at l j v hv
      have h0 := hsrc j x hx
      exact (hb1.cell (block_lt_of_cell h0 : (ad.add j).block < _)).trans h0) (by rw [u8Cells_len]; omega) (u8Cells_one l)
  rw [u8Cells_len] at hcp
  refine ⟨W1, _, hmk, hcp, .inr ⟨w.heap.size, l.length, rfl, Nat.le_refl _, fun i x hi => ?_⟩, below_setRow hb1 (Nat.le_refl _) _⟩
  have hil := (List.getElem?_eq_some_iff.1 hi).1
  have hh := setRow_heap W1 w.heap.size cur (cur.toList.take 0 ++ u8Cells l ++ cur.toList.drop (0 + l.length)).toArray 5 _ hheap
  unfold World.cell?
  dsimp only
  rw [hh]
  have hu : i < (u8Cells l).length := by rw [u8Cells_len]; exact hil
  simp only [List.take_zero, List.nil_append, Option.isSome_none, Bool.false_eq_true, if_false, List.getElem?_toArray, Nat.zero_add]
  rw [List.getElem?_append_left hu]
  unfold u8Cells
  rw [List.getElem?_map, hi]
  rfl

theorem joined_body {W : World} {base : Nat} {v : Value} {l : List UInt8} (h : W.ownsRow base 5 1 v (0 + l.length + tailS.size) ([] ++ u8Cells l ++ Lib.strCells tailS)) : BodyIs v (l ++ tailS.data.toList) W := by
  have e : [] ++ u8Cells l ++ Lib.strCells tailS = u8Cells (l ++ tailS.data.toList) := by
    unfold u8Cells Lib.strCells
    rw [List.map_append, List.nil_append]
  rw [e] at h
  have hz : (l ++ tailS.data.toList).length = l.length + 36 := by rw [List.length_append]; rfl
  have h36 : tailS.size = 36 := rfl
  exact body_of_row h (by omega) (by omega)

def starS : ByteArray := ⟨#[42]⟩
def zzS : ByteArray := ⟨#[47, 122, 122]⟩

/-- what the parser answers. -/
def ParsesTo (w : World) (G : List UInt8 → ByteArray → Grp2) : Prop := ∀ (W : World) (v : Value) (l : List UInt8) (tok : ByteArray), Below w.heap.size w W → BodyIs v l W → l.length ≤ 1048576 → tok.size ≤ 16777216 →
  Calls Tryz.prog 6 #[v, .string tok] W fun e w' => ∃ p k, e = .returned (.agg #[.slice p (G l tok).1.length k, .int .i64 (G l tok).2]) ∧ RuleCells p (G l tok).1 w' ∧ Below W.heap.size W w'

set_option maxHeartbeats 8000000 in
set_option maxRecDepth 1000000 in
theorem law5_of (v : Value) (l : List UInt8) (tok : ByteArray) (w : World) (hA : ArgIs v l w) (hl : l.length ≤ 9223372036854775807) (ht : tok.size ≤ 9223372036854775807) (G : List UInt8 → ByteArray → Grp2) (hP : ParsesTo w G) (hN : l.length ≤ 524288 → (G l starS).1.length ≤ 16777216 ∧ (G l tok).1.length ≤ 16777216)
    (hG : G (l ++ tailS.data.toList) starS = ((G l starS).1 ++ [(false, zzS)], (G l starS).2) ∧ (G (l ++ tailS.data.toList) tok = G l tok ∨ (G l tok = G l starS ∧ G (l ++ tailS.data.toList) tok = ((G l starS).1 ++ [(false, zzS)], (G l starS).2)))) :
    Calls Tryz.prog 5 #[v, .string tok] w fun e w' => e = .returned (.bool true) ∧ Below w.heap.size w w' := by
  obtain ⟨q, c, hv⟩ : ∃ q c, v = .slice q l.length c := by
    rcases hA with ⟨rfl, rfl⟩ | ⟨ad, c, rfl, _⟩
    · exact ⟨_, _, rfl⟩
    · exact ⟨_, _, rfl⟩
  have HZ := hide (zzBytes_any q l.length c hl tok ht w)
  rw [← hv] at HZ
  by_cases h1 : (524288 : Int) < l.length
  · subst hv
    clear hA
    go_enter Tryz.func5, Tryz.ntmps5
    go_wp2_with (go_at_call 17; refine (unhide HZ).mono ?_; rintro e w1 ⟨⟨b, rfl⟩, hw⟩; obtain rfl := hw.symm; cases b)
    all_goals
      go_ret
      exact ⟨rfl, Below.refl _ _⟩
  by_cases h2 : (524288 : Int) < tok.size
  · subst hv
    clear hA
    go_enter Tryz.func5, Tryz.ntmps5
    go_wp2_with (go_at_call 17; refine (unhide HZ).mono ?_; rintro e w1 ⟨⟨b, rfl⟩, hw⟩; obtain rfl := hw.symm; cases b)
    all_goals
      go_ret
      exact ⟨rfl, Below.refl _ _⟩
  subst hv
  have hl2 : l.length ≤ 524288 := by omega
  have ht2 : tok.size ≤ 524288 := by omega
  have HA := hide hA
  clear hA
  go_enter Tryz.func5, Tryz.ntmps5
  go_upto_if 50 with (go_at_call 17; refine (unhide HZ).mono ?_; rintro e w1 ⟨⟨b, rfl⟩, hw⟩; obtain rfl := hw.symm; cases b)
  · go_ret
    exact ⟨rfl, Below.refl _ _⟩
  go_cut [0, 5] from 49 to 57 (fun s0 s5 wx => Hid (BodyIs s0 l wx ∧ Below w.heap.size w wx))
  case first =>
    rcases unhide HA with ⟨e, rfl⟩ | ⟨ad, c', e, hsrc⟩
    · injection e with e1 e2 e3
      subst e1 e3
      go_wp2_with fail
      go_meet
      exact ⟨.inl ⟨rfl, rfl⟩, Below.refl _ _⟩
    · injection e with e1 e2 e3
      subst e1 e3
      obtain ⟨W1, W2, hmk, hcp, hB, hb⟩ := copy_laid ad c l w hsrc hl2
      have HB := hide (And.intro hB hb)
      clear hB hb hsrc
      go_wp2_with fail
      go_meet
      exact unhide HB
  case rest =>
    obtain ⟨q0, c0, hu0⟩ : ∃ q0 c0, u0 = .slice q0 l.length c0 := by
      rcases (unhide hcut).1 with ⟨rfl, rfl⟩ | ⟨b, c0, rfl, _⟩
      · exact ⟨_, _, rfl⟩
      · exact ⟨_, _, rfl⟩
    subst hu0
    have hcat : (⟨#[10]⟩ ++ ⟨#[65, 108, 108, 111, 119, 58]⟩ ++ ⟨#[10]⟩ ++ ⟨#[85, 115, 101, 114, 45, 97, 103, 101, 110, 116, 58, 32, 42]⟩ ++ ⟨#[10]⟩ ++ ⟨#[68, 105, 115, 97, 108, 108, 111, 119, 58, 32, 47, 122, 122]⟩ ++ ⟨#[10]⟩ : ByteArray) = tailS := by decide
    have hTs : tailS.size = 36 := by decide
    obtain ⟨i0, hi, hz0, hz1, hzb⟩ := info5
    obtain ⟨W0, hmk, ho0, hg0⟩ := run_make_own (P := Tryz.prog) wc wc.heap.size 22 5 i0 (.int .u8 0) 1 Tryz.underlying22 hi hz0 hz1 .i64 .i64 (l.length + 36) (by rw [hzb]; omega) (by unfold maxLen; omega) (Nat.le_refl _)
    rw [show ((l.length + 36 : Nat) : Int) = (l.length : Int) + 36 by omega] at hmk
    have hb0 : Below wc.heap.size wc W0 := (Below.refl _ wc).grown hg0 (Nat.le_refl _) (fun k hk => by cases hk)
    have HB := hide (And.intro (unhide hcut).2 (And.intro hb0 (And.intro ((unhide hcut).1) ((unhide hcut).1.below hb0))))
    have HO0 := hide ho0
    clear ho0 hb0 hg0 hcut
    go_upto_region 16 with (at_builtin; first
      | (refine Lib.wpList_append_own_string _ rfl (.tmp 77) (.tmp 78) 22 9 rfl _ 5 i0 Tryz.underlying22 Tryz.underlying9 hi hz0 hz1 hzb _ _ _ rfl (unhide HO1).1 tailS rfl (by unfold maxLen; omega) (by omega) (unhide HO1).2.size ?_; intro v2 w2 ho2 hg2 hx2; clear hx2; have HO2 := hide (And.intro ho2 ((unhide HO1).2.grown hg2 (unhide HO1).2.size (fun k hk => ((unhide HO1).1.lt k hk).1))); clear ho2 hg2)
      | (refine wpList_append_body rfl (.tmp 74) (.tmp 75) rfl _ _ _ _ rfl (unhide HO0) _ _ rfl (unhide HB).2.2.2 (by omega) (unhide HB).2.1.size ?_; intro v1 w1 ho1 hg1; have HO1 := hide (And.intro ho1 ((unhide HB).2.1.grown hg1 (unhide HB).2.1.size (fun k hk => ((unhide HO0).lt k hk).1))); clear ho1 hg1))
    have HS0 := hide (⟨(unhide HB).1.trans ((unhide HO2).2.mono (unhide HB).1.size), (unhide HB).2.2.1.below (unhide HO2).2, joined_body (unhide HO2).1⟩ : S0 w (.slice q0 l.length c0) v2 l (l ++ tailS.data.toList) w2)
    have hl8 : (l ++ tailS.data.toList).length ≤ 1048576 := by rw [List.length_append]; show l.length + 36 ≤ _; omega
    have HP1 := hide (fun W (h : S0 w (.slice q0 l.length c0) v2 l (l ++ tailS.data.toList) W) => hP W _ _ tok h.below h.b0 (by omega) (by omega))
    have HP2 := hide (fun W (h : S0 w (.slice q0 l.length c0) v2 l (l ++ tailS.data.toList) W) => hP W _ _ tok h.below h.b8 hl8 (by omega))
    have HP3 := hide (fun W (h : S0 w (.slice q0 l.length c0) v2 l (l ++ tailS.data.toList) W) => hP W _ _ starS h.below h.b0 (by omega) (by decide))
    have HP4 := hide (fun W (h : S0 w (.slice q0 l.length c0) v2 l (l ++ tailS.data.toList) W) => hP W _ _ starS h.below h.b8 hl8 (by decide))
    have HG := hide hG
    have HN := hide (hN hl2)
    clear hG hN hP HO0 HO1 HO2 HB hmk hi hz0 hz1 hzb HZ HA hl8
    generalize G (l ++ tailS.data.toList) starS = GT at HP4 HG
    generalize G (l ++ tailS.data.toList) tok = GB at HP2 HG
    generalize G l starS = GS at HP3 HG HN
    generalize G l tok = GA at HP1 HG HN
    unfold starS at HP3 HP4
    have HSn : Hid (Sn w (.slice q0 l.length c0) v2 l (l ++ tailS.data.toList) [] w2) := hide ⟨unhide HS0, fun x hx => by cases hx⟩
    clear HS0
    go_upto_region 20 with (go_at_call 6; first
      | (refine (unhide HP4 _ (unhide HS3).1).mono ?_; rintro e w6 ⟨p12, k12, rfl, hR4, hb4⟩; have HS4 := hide (Sn.add (k := k12) (unhide HS3) hb4 hR4); clear hR4 hb4)
      | (refine (unhide HP3 _ (unhide HS2).1).mono ?_; rintro e w5 ⟨p11, k11, rfl, hR3, hb3⟩; have HS3 := hide (Sn.add (k := k11) (unhide HS2) hb3 hR3); clear hR3 hb3)
      | (refine (unhide HP2 _ (unhide HS1).1).mono ?_; rintro e w4 ⟨p10, k10, rfl, hR2, hb2⟩; have HS2 := hide (Sn.add (k := k10) (unhide HS1) hb2 hR2); clear hR2 hb2)
      | (refine (unhide HP1 _ (unhide HSn).1).mono ?_; rintro e w3 ⟨p9, k9, rfl, hR1, hb1⟩; have HS1 := hide (Sn.add (k := k9) (unhide HSn) hb1 hR1); clear hR1 hb1))
    obtain ⟨hT, hC⟩ := unhide HG
    have HT1 := hide (show GT.1.length = GS.1.length + 1 by rw [hT]; simp)
    have HTi := hide (show ∀ i x, GS.1[i]? = some x → GT.1[i]? = some x from fun i x h => by rw [hT]; exact (List.getElem?_append_left (List.getElem?_eq_some_iff.1 h).1).trans h)
    have HTz := hide (show GT.1[GS.1.length]? = some (false, zzS) by rw [hT]; simp)
    have HF : Hid (Four w w3.heap.size p9 k9 GA.1.length GA.2 GA.1 w4.heap.size p10 k10 GB.1.length GB.2 GB.1 w5.heap.size p11 k11 GS.1.length GS.2 GS.1 w6.heap.size p12 k12 (GS.1.length + 1) GS.2 GT.1 _) := hide ⟨(unhide HS4).1.below, ((unhide HS4).2 (w3.heap.size, p9, k9, GA) (by simp)).n rfl rfl rfl, ((unhide HS4).2 (w4.heap.size, p10, k10, GB) (by simp)).n rfl rfl rfl, ((unhide HS4).2 (w5.heap.size, p11, k11, GS) (by simp)).n rfl rfl rfl, ((unhide HS4).2 (w6.heap.size, p12, k12, GT) (by simp)).n (unhide HT1) (by rw [hT]) rfl⟩
    have HC : Hid ((GA.1 = GB.1 ∧ GA.1.length = GB.1.length ∧ GA.2 = GB.2) ∨ (GS.1 = GA.1 ∧ GS.1.length = GA.1.length ∧ GS.2 = GA.2 ∧ GT.1 = GB.1 ∧ GS.1.length + 1 = GB.1.length ∧ GS.2 = GB.2)) := by
      rcases hC with rfl | ⟨rfl, e⟩
      · exact .inl ⟨rfl, rfl, rfl⟩
      · rw [← hT] at e
        subst e
        exact .inr ⟨rfl, rfl, rfl, rfl, (unhide HT1).symm, by rw [hT]⟩
    have HrA := hide (show GA.1.length = GA.1.length from rfl)
    have HrS := hide (show GS.1.length = GS.1.length from rfl)
    clear HG hT hC
    clear HSn HS1 HS2 HS3 HS4 HP1 HP2 HP3 HP4
    generalize (w6.alloc (.cells #[.slice p12 GT.1.length k12, .int .i64 GT.2] 26)) = W at HF ⊢
    obtain ⟨nS, hnS⟩ : ∃ nS, GS.1.length = nS := ⟨_, rfl⟩
    obtain ⟨nA, hnA⟩ : ∃ nA, GA.1.length = nA := ⟨_, rfl⟩
    obtain ⟨nB, hnB⟩ : ∃ nB, GB.1.length = nB := ⟨_, rfl⟩
    have HnS := hide hnS
    have HnA := hide hnA
    have HnB := hide hnB
    have HnT : Hid (GT.1.length = nS + 1) := hide ((unhide HT1).trans (by rw [hnS]))
    rw [hnS] at HF HC HTz HN
    rw [hnA] at HF HC HN
    rw [hnB] at HF HC
    clear HrA HrS HT1 hnS hnA hnB
    generalize GS.1 = rS at *
    generalize GS.2 = dS at *
    generalize GT.1 = rT at *
    generalize GA.1 = rA at *
    generalize GA.2 = dA at *
    generalize GB.1 = rB at *
    generalize GB.2 = dB at *
    have hnSb : (nS : Int) ≤ 16777216 := by have := (unhide HN).1; omega
    have hnAb : (nA : Int) ≤ 16777216 := by have := (unhide HN).2; omega
    have hws : IntKind.i64.wrap ((nS : Int) + 1) = (nS : Int) + 1 := wrapJ_id _ (by omega)
    clear HN
    generalize w3.heap.size = a9 at HF ⊢
    generalize w4.heap.size = a10 at HF ⊢
    generalize w5.heap.size = a11 at HF ⊢
    generalize w6.heap.size = a12 at HF ⊢
    clear w3 w4 w5 w6
    have ca0 := (unhide HF).a.c0; have ca1 := (unhide HF).a.c1; have cb0 := (unhide HF).b.c0; have cb1 := (unhide HF).b.c1; have cs0 := (unhide HF).s.c0; have cs1 := (unhide HF).s.c1; have ct0 := (unhide HF).t.c0; have ct1 := (unhide HF).t.c1
    go_upto_region 21 with (go_at_call 7; refine (groupLen_all _ _ _ _ _).mono ?_; rintro e wL ⟨rfl, hbL⟩; (first | (replace HF := hide ((unhide HF).stay hbL)) | (replace HF := hide ((unhide HF).drew.stay hbL))); clear hbL; replace ca0 := (unhide HF).a.c0; replace ca1 := (unhide HF).a.c1; replace cb0 := (unhide HF).b.c0; replace cb1 := (unhide HF).b.c1; replace cs0 := (unhide HF).s.c0; replace cs1 := (unhide HF).s.c1; replace ct0 := (unhide HF).t.c0; replace ct1 := (unhide HF).t.c1)
    go_cut [103] from 92 to 102 (fun s103 wx => s103 = .bool false ∧ Hid (Four w a9 p9 k9 nA dA rA a10 p10 k10 nB dB rB a11 p11 k11 nS dS rS a12 p12 k12 (nS + 1) dS rT wx))
    case first =>
      go_region_with (first | (go_at_call 7; refine (groupLen_all _ _ _ _ _).mono ?_; rintro e wL ⟨rfl, hbL⟩; (first | (replace HF := hide ((unhide HF).stay hbL)) | (replace HF := hide ((unhide HF).drew.stay hbL))); clear hbL; replace ca0 := (unhide HF).a.c0; replace ca1 := (unhide HF).a.c1; replace cb0 := (unhide HF).b.c0; replace cb1 := (unhide HF).b.c1; replace cs0 := (unhide HF).s.c0; replace cs1 := (unhide HF).s.c1; replace ct0 := (unhide HF).t.c0; replace ct1 := (unhide HF).t.c1) | (go_at_call 16; refine (groupDelay_any _ _ _ _ _).mono ?_; rintro e wD ⟨rfl, hbD⟩; (first | (replace HF := hide ((unhide HF).stay hbD)) | (replace HF := hide ((unhide HF).drew.stay hbD))); clear hbD; replace ca0 := (unhide HF).a.c0; replace ca1 := (unhide HF).a.c1; replace cb0 := (unhide HF).b.c0; replace cb1 := (unhide HF).b.c1; replace cs0 := (unhide HF).s.c0; replace cs1 := (unhide HF).s.c1; replace ct0 := (unhide HF).t.c0; replace ct1 := (unhide HF).t.c1))
      all_goals
        go_wp2
        go_meet
        exact ⟨rfl, unhide HF⟩
    obtain ⟨rfl, HF'⟩ := hcut
    clear HF
    have HF := HF'
    clear HF'
    replace ca0 := (unhide HF).a.c0; replace ca1 := (unhide HF).a.c1; replace cb0 := (unhide HF).b.c0; replace cb1 := (unhide HF).b.c1; replace cs0 := (unhide HF).s.c0; replace cs1 := (unhide HF).s.c1; replace ct0 := (unhide HF).t.c0; replace ct1 := (unhide HF).t.c1
    go_wp2
    go_loopg [14, 15, 16, 17, 18] nS (fun gf s14 s15 s16 s17 s18 wx => ∃ i : Nat, s14 = .int .i64 i ∧ i + gf = nS ∧ Hid (Four w a9 p9 k9 nA dA rA a10 p10 k10 nB dB rB a11 p11 k11 nS dS rS a12 p12 k12 (nS + 1) dS rT wx))
    case atStart => exact ⟨0, rfl, by omega, unhide HF⟩
    case round =>
      clear HF
      obtain ⟨i, rfl, hi, HF⟩ := hrel
      replace ca0 := (unhide HF).a.c0; replace ca1 := (unhide HF).a.c1; replace cb0 := (unhide HF).b.c0; replace cb1 := (unhide HF).b.c1; replace cs0 := (unhide HF).s.c0; replace cs1 := (unhide HF).s.c1; replace ct0 := (unhide HF).t.c0; replace ct1 := (unhide HF).t.c1
      cases gk with
      | succ g =>
        have hiz : (i : Int) < (nS : Int) := by omega
        have hwi : IntKind.i64.wrap ((i : Int) + 1) = (i : Int) + 1 := wrapJ_id _ (by omega)
        obtain ⟨⟨al, v⟩, hx⟩ : ∃ x, rS[i]? = some x := ⟨rS[i]'(by have := unhide HnS; omega), List.getElem?_eq_getElem (by have := unhide HnS; omega)⟩
        have HQa := hide (fun W (h : Four w a9 p9 k9 nA dA rA a10 p10 k10 nB dB rB a11 p11 k11 nS dS rS a12 p12 k12 (nS + 1) dS rT W) => groupRule_n p11 k11 i nS dS rS al v W (unhide HnS) h.s.rs hx)
        have HQc := hide (fun W (h : Four w a9 p9 k9 nA dA rA a10 p10 k10 nB dB rB a11 p11 k11 nS dS rS a12 p12 k12 (nS + 1) dS rT W) => groupRule_n p12 k12 i (nS + 1) dS rT al v W (unhide HnT) h.t.rs (unhide HTi _ _ hx))
        clear hx
        go_wp2_with (go_at_call 8; first | (refine (unhide HQb _ (unhide HF)).mono ?_; clear HQb; rintro e wR ⟨rfl, hbR⟩; (first | (replace HF := hide ((unhide HF).stay hbR)) | (replace HF := hide ((unhide HF).drew.stay hbR))); clear hbR; replace ca0 := (unhide HF).a.c0; replace ca1 := (unhide HF).a.c1; replace cb0 := (unhide HF).b.c0; replace cb1 := (unhide HF).b.c1; replace cs0 := (unhide HF).s.c0; replace cs1 := (unhide HF).s.c1; replace ct0 := (unhide HF).t.c0; replace ct1 := (unhide HF).t.c1) | (refine (unhide HQa _ (unhide HF)).mono ?_; rintro e wR ⟨rfl, hbR⟩; (first | (replace HF := hide ((unhide HF).stay hbR)) | (replace HF := hide ((unhide HF).drew.stay hbR))); clear hbR; replace ca0 := (unhide HF).a.c0; replace ca1 := (unhide HF).a.c1; replace cb0 := (unhide HF).b.c0; replace cb1 := (unhide HF).b.c1; replace cs0 := (unhide HF).s.c0; replace cs1 := (unhide HF).s.c1; replace ct0 := (unhide HF).t.c0; replace ct1 := (unhide HF).t.c1; have HQb := hide (unhide HQc)))
        go_roundg g
        case measure => omega
        case rel => exact ⟨i + 1, by simp, by omega, unhide HF⟩
      | zero =>
        have hiz : ¬ ((i : Int) < (nS : Int)) := by omega
        have HQz := hide (fun W (h : Four w a9 p9 k9 nA dA rA a10 p10 k10 nB dB rB a11 p11 k11 nS dS rS a12 p12 k12 (nS + 1) dS rT W) => groupRule_n p12 k12 nS (nS + 1) dS rT false ⟨#[47, 122, 122]⟩ W (unhide HnT) h.t.rs (unhide HTz))
        go_upto_region 34 with (first | (go_at_call 7; refine (groupLen_all _ _ _ _ _).mono ?_; rintro e wL ⟨rfl, hbL⟩; (first | (replace HF := hide ((unhide HF).stay hbL)) | (replace HF := hide ((unhide HF).drew.stay hbL))); clear hbL; replace ca0 := (unhide HF).a.c0; replace ca1 := (unhide HF).a.c1; replace cb0 := (unhide HF).b.c0; replace cb1 := (unhide HF).b.c1; replace cs0 := (unhide HF).s.c0; replace cs1 := (unhide HF).s.c1; replace ct0 := (unhide HF).t.c0; replace ct1 := (unhide HF).t.c1) | (go_at_call 8; refine (unhide HQz _ (unhide HF)).mono ?_; rintro e wR ⟨rfl, hbR⟩; (first | (replace HF := hide ((unhide HF).stay hbR)) | (replace HF := hide ((unhide HF).drew.stay hbR))); clear hbR; replace ca0 := (unhide HF).a.c0; replace ca1 := (unhide HF).a.c1; replace cb0 := (unhide HF).b.c0; replace cb1 := (unhide HF).b.c1; replace cs0 := (unhide HF).s.c0; replace cs1 := (unhide HF).s.c1; replace ct0 := (unhide HF).t.c0; replace ct1 := (unhide HF).t.c1))
        rcases unhide HC with ⟨e1, e2, e3⟩ | ⟨e1, e2, e3, e4, e5, e6⟩
        · subst e1 e2 e3
          clear HC
          go_cut [22] from 142 to 152 (fun s22 wx => s22 = .bool true ∧ Hid (Four w a9 p9 k9 nA dA rA a10 p10 k10 nA dA rA a11 p11 k11 nS dS rS a12 p12 k12 (nS + 1) dS rT wx))
          case first =>
            go_region_with (first | (go_at_call 7; refine (groupLen_all _ _ _ _ _).mono ?_; rintro e wL ⟨rfl, hbL⟩; (first | (replace HF := hide ((unhide HF).stay hbL)) | (replace HF := hide ((unhide HF).drew.stay hbL))); clear hbL; replace ca0 := (unhide HF).a.c0; replace ca1 := (unhide HF).a.c1; replace cb0 := (unhide HF).b.c0; replace cb1 := (unhide HF).b.c1; replace cs0 := (unhide HF).s.c0; replace cs1 := (unhide HF).s.c1; replace ct0 := (unhide HF).t.c0; replace ct1 := (unhide HF).t.c1) | (go_at_call 16; refine (groupDelay_any _ _ _ _ _).mono ?_; rintro e wD ⟨rfl, hbD⟩; (first | (replace HF := hide ((unhide HF).stay hbD)) | (replace HF := hide ((unhide HF).drew.stay hbD))); clear hbD; replace ca0 := (unhide HF).a.c0; replace ca1 := (unhide HF).a.c1; replace cb0 := (unhide HF).b.c0; replace cb1 := (unhide HF).b.c1; replace cs0 := (unhide HF).s.c0; replace cs1 := (unhide HF).s.c1; replace ct0 := (unhide HF).t.c0; replace ct1 := (unhide HF).t.c1))
            all_goals
              go_wp2
              go_meet
              exact ⟨rfl, unhide HF⟩
          obtain ⟨rfl, HF'⟩ := hcut
          clear HF
          have HF := HF'
          clear HF'
          replace ca0 := (unhide HF).a.c0; replace ca1 := (unhide HF).a.c1; replace cb0 := (unhide HF).b.c0; replace cb1 := (unhide HF).b.c1; replace cs0 := (unhide HF).s.c0; replace cs1 := (unhide HF).s.c1; replace ct0 := (unhide HF).t.c0; replace ct1 := (unhide HF).t.c1
          go_wp2
          go_loopg [22, 23, 24, 25, 26, 27] nA (fun gf s22 s23 s24 s25 s26 s27 wx => s22 = .bool true ∧ ∃ j : Nat, s23 = .int .i64 j ∧ j + gf = nA ∧ Hid (Four w a9 p9 k9 nA dA rA a10 p10 k10 nA dA rA a11 p11 k11 nS dS rS a12 p12 k12 (nS + 1) dS rT wx))
          case atStart => exact ⟨rfl, 0, rfl, by omega, unhide HF⟩
          case round =>
            clear HF
            obtain ⟨rfl, j, rfl, hj, HF⟩ := hrel
            replace ca0 := (unhide HF).a.c0; replace ca1 := (unhide HF).a.c1; replace cb0 := (unhide HF).b.c0; replace cb1 := (unhide HF).b.c1; replace cs0 := (unhide HF).s.c0; replace cs1 := (unhide HF).s.c1; replace ct0 := (unhide HF).t.c0; replace ct1 := (unhide HF).t.c1
            cases gk with
            | succ g =>
              have hjz : (j : Int) < (nA : Int) := by omega
              have hwj : IntKind.i64.wrap ((j : Int) + 1) = (j : Int) + 1 := wrapJ_id _ (by omega)
              obtain ⟨⟨al, v⟩, hx⟩ : ∃ x, rA[j]? = some x := ⟨rA[j]'(by have := unhide HnA; omega), List.getElem?_eq_getElem (by have := unhide HnA; omega)⟩
              have HQa := hide (fun W (h : Four w a9 p9 k9 nA dA rA a10 p10 k10 nA dA rA a11 p11 k11 nS dS rS a12 p12 k12 (nS + 1) dS rT W) => groupRule_n p9 k9 j nA dA rA al v W (unhide HnA) h.a.rs hx)
              have HQc := hide (fun W (h : Four w a9 p9 k9 nA dA rA a10 p10 k10 nA dA rA a11 p11 k11 nS dS rS a12 p12 k12 (nS + 1) dS rT W) => groupRule_n p10 k10 j nA dA rA al v W (unhide HnA) h.b.rs hx)
              clear hx
              go_wp2_with (go_at_call 8; first | (refine (unhide HQb _ (unhide HF)).mono ?_; clear HQb; rintro e wR ⟨rfl, hbR⟩; (first | (replace HF := hide ((unhide HF).stay hbR)) | (replace HF := hide ((unhide HF).drew.stay hbR))); clear hbR; replace ca0 := (unhide HF).a.c0; replace ca1 := (unhide HF).a.c1; replace cb0 := (unhide HF).b.c0; replace cb1 := (unhide HF).b.c1; replace cs0 := (unhide HF).s.c0; replace cs1 := (unhide HF).s.c1; replace ct0 := (unhide HF).t.c0; replace ct1 := (unhide HF).t.c1) | (refine (unhide HQa _ (unhide HF)).mono ?_; rintro e wR ⟨rfl, hbR⟩; (first | (replace HF := hide ((unhide HF).stay hbR)) | (replace HF := hide ((unhide HF).drew.stay hbR))); clear hbR; replace ca0 := (unhide HF).a.c0; replace ca1 := (unhide HF).a.c1; replace cb0 := (unhide HF).b.c0; replace cb1 := (unhide HF).b.c1; replace cs0 := (unhide HF).s.c0; replace cs1 := (unhide HF).s.c1; replace ct0 := (unhide HF).t.c0; replace ct1 := (unhide HF).t.c1; have HQb := hide (unhide HQc)))
              go_roundg g
              case measure => omega
              case rel => exact ⟨rfl, j + 1, by simp, by omega, unhide HF⟩
            | zero =>
              have hjz : ¬ ((j : Int) < (nA : Int)) := by omega
              go_wp2
              go_ret
              exact ⟨rfl, (unhide HF).below⟩
        · subst e1 e2 e3 e4 e5 e6
          clear HC
          go_cut [22] from 142 to 152 (fun s22 wx => s22 = .bool false ∧ Hid (Four w a9 p9 k9 nS dS rS a10 p10 k10 (nS + 1) dS rT a11 p11 k11 nS dS rS a12 p12 k12 (nS + 1) dS rT wx))
          case first =>
            go_region_with (first | (go_at_call 7; refine (groupLen_all _ _ _ _ _).mono ?_; rintro e wL ⟨rfl, hbL⟩; (first | (replace HF := hide ((unhide HF).stay hbL)) | (replace HF := hide ((unhide HF).drew.stay hbL))); clear hbL; replace ca0 := (unhide HF).a.c0; replace ca1 := (unhide HF).a.c1; replace cb0 := (unhide HF).b.c0; replace cb1 := (unhide HF).b.c1; replace cs0 := (unhide HF).s.c0; replace cs1 := (unhide HF).s.c1; replace ct0 := (unhide HF).t.c0; replace ct1 := (unhide HF).t.c1) | (go_at_call 16; refine (groupDelay_any _ _ _ _ _).mono ?_; rintro e wD ⟨rfl, hbD⟩; (first | (replace HF := hide ((unhide HF).stay hbD)) | (replace HF := hide ((unhide HF).drew.stay hbD))); clear hbD; replace ca0 := (unhide HF).a.c0; replace ca1 := (unhide HF).a.c1; replace cb0 := (unhide HF).b.c0; replace cb1 := (unhide HF).b.c1; replace cs0 := (unhide HF).s.c0; replace cs1 := (unhide HF).s.c1; replace ct0 := (unhide HF).t.c0; replace ct1 := (unhide HF).t.c1))
            all_goals
              go_wp2
              go_meet
              exact ⟨rfl, unhide HF⟩
          obtain ⟨rfl, HF'⟩ := hcut
          clear HF
          have HF := HF'
          clear HF'
          replace ca0 := (unhide HF).a.c0; replace ca1 := (unhide HF).a.c1; replace cb0 := (unhide HF).b.c0; replace cb1 := (unhide HF).b.c1; replace cs0 := (unhide HF).s.c0; replace cs1 := (unhide HF).s.c1; replace ct0 := (unhide HF).t.c0; replace ct1 := (unhide HF).t.c1
          go_wp2
          go_loopg [22, 23, 24, 25, 26, 27] 0 (fun gf s22 s23 s24 s25 s26 s27 wx => s22 = .bool false ∧ s23 = .int .i64 0 ∧ Hid (Four w a9 p9 k9 nS dS rS a10 p10 k10 (nS + 1) dS rT a11 p11 k11 nS dS rS a12 p12 k12 (nS + 1) dS rT wx))
          case atStart => exact ⟨rfl, rfl, unhide HF⟩
          case round =>
            clear HF
            obtain ⟨rfl, rfl, HF⟩ := hrel
            replace ca0 := (unhide HF).a.c0; replace ca1 := (unhide HF).a.c1; replace cb0 := (unhide HF).b.c0; replace cb1 := (unhide HF).b.c1; replace cs0 := (unhide HF).s.c0; replace cs1 := (unhide HF).s.c1; replace ct0 := (unhide HF).t.c0; replace ct1 := (unhide HF).t.c1
            go_upto_region 43 with fail
            go_cut [191] from 182 to 190 (fun s191 wx => s191 = .bool false ∧ Hid (Four w a9 p9 k9 nS dS rS a10 p10 k10 (nS + 1) dS rT a11 p11 k11 nS dS rS a12 p12 k12 (nS + 1) dS rT wx))
            case first =>
              go_region_with (first | (go_at_call 7; refine (groupLen_all _ _ _ _ _).mono ?_; rintro e wL ⟨rfl, hbL⟩; (first | (replace HF := hide ((unhide HF).stay hbL)) | (replace HF := hide ((unhide HF).drew.stay hbL))); clear hbL; replace ca0 := (unhide HF).a.c0; replace ca1 := (unhide HF).a.c1; replace cb0 := (unhide HF).b.c0; replace cb1 := (unhide HF).b.c1; replace cs0 := (unhide HF).s.c0; replace cs1 := (unhide HF).s.c1; replace ct0 := (unhide HF).t.c0; replace ct1 := (unhide HF).t.c1) | (go_at_call 16; refine (groupDelay_any _ _ _ _ _).mono ?_; rintro e wD ⟨rfl, hbD⟩; (first | (replace HF := hide ((unhide HF).stay hbD)) | (replace HF := hide ((unhide HF).drew.stay hbD))); clear hbD; replace ca0 := (unhide HF).a.c0; replace ca1 := (unhide HF).a.c1; replace cb0 := (unhide HF).b.c0; replace cb1 := (unhide HF).b.c1; replace cs0 := (unhide HF).s.c0; replace cs1 := (unhide HF).s.c1; replace ct0 := (unhide HF).t.c0; replace ct1 := (unhide HF).t.c1))
              all_goals
                go_wp2
                go_meet
                exact ⟨rfl, unhide HF⟩
            obtain ⟨rfl, HF'⟩ := hcut
            clear HF
            have HF := HF'
            clear HF'
            replace ca0 := (unhide HF).a.c0; replace ca1 := (unhide HF).a.c1; replace cb0 := (unhide HF).b.c0; replace cb1 := (unhide HF).b.c1; replace cs0 := (unhide HF).s.c0; replace cs1 := (unhide HF).s.c1; replace ct0 := (unhide HF).t.c0; replace ct1 := (unhide HF).t.c1
            go_wp2
            go_loopg [28, 29, 30, 31, 32] nS (fun gf s28 s29 s30 s31 s32 wx => ∃ j : Nat, s28 = .int .i64 j ∧ j + gf = nS ∧ Hid (Four w a9 p9 k9 nS dS rS a10 p10 k10 (nS + 1) dS rT a11 p11 k11 nS dS rS a12 p12 k12 (nS + 1) dS rT wx))
            case atStart => exact ⟨0, rfl, by omega, unhide HF⟩
            case round =>
              clear HF
              obtain ⟨j, rfl, hj, HF⟩ := hrel
              replace ca0 := (unhide HF).a.c0; replace ca1 := (unhide HF).a.c1; replace cb0 := (unhide HF).b.c0; replace cb1 := (unhide HF).b.c1; replace cs0 := (unhide HF).s.c0; replace cs1 := (unhide HF).s.c1; replace ct0 := (unhide HF).t.c0; replace ct1 := (unhide HF).t.c1
              cases gk with
              | succ g =>
                have hjz : (j : Int) < (nS : Int) := by omega
                have hwj : IntKind.i64.wrap ((j : Int) + 1) = (j : Int) + 1 := wrapJ_id _ (by omega)
                obtain ⟨⟨al, v⟩, hx⟩ : ∃ x, rS[j]? = some x := ⟨rS[j]'(by have := unhide HnS; omega), List.getElem?_eq_getElem (by have := unhide HnS; omega)⟩
                have HQa := hide (fun W (h : Four w a9 p9 k9 nS dS rS a10 p10 k10 (nS + 1) dS rT a11 p11 k11 nS dS rS a12 p12 k12 (nS + 1) dS rT W) => groupRule_n p9 k9 j nS dS rS al v W (unhide HnS) h.a.rs hx)
                have HQc := hide (fun W (h : Four w a9 p9 k9 nS dS rS a10 p10 k10 (nS + 1) dS rT a11 p11 k11 nS dS rS a12 p12 k12 (nS + 1) dS rT W) => groupRule_n p11 k11 j nS dS rS al v W (unhide HnS) h.s.rs hx)
                clear hx
                go_wp2_with (go_at_call 8; first | (refine (unhide HQb _ (unhide HF)).mono ?_; clear HQb; rintro e wR ⟨rfl, hbR⟩; (first | (replace HF := hide ((unhide HF).stay hbR)) | (replace HF := hide ((unhide HF).drew.stay hbR))); clear hbR; replace ca0 := (unhide HF).a.c0; replace ca1 := (unhide HF).a.c1; replace cb0 := (unhide HF).b.c0; replace cb1 := (unhide HF).b.c1; replace cs0 := (unhide HF).s.c0; replace cs1 := (unhide HF).s.c1; replace ct0 := (unhide HF).t.c0; replace ct1 := (unhide HF).t.c1) | (refine (unhide HQa _ (unhide HF)).mono ?_; rintro e wR ⟨rfl, hbR⟩; (first | (replace HF := hide ((unhide HF).stay hbR)) | (replace HF := hide ((unhide HF).drew.stay hbR))); clear hbR; replace ca0 := (unhide HF).a.c0; replace ca1 := (unhide HF).a.c1; replace cb0 := (unhide HF).b.c0; replace cb1 := (unhide HF).b.c1; replace cs0 := (unhide HF).s.c0; replace cs1 := (unhide HF).s.c1; replace ct0 := (unhide HF).t.c0; replace ct1 := (unhide HF).t.c1; have HQb := hide (unhide HQc)))
                go_roundg g
                case measure => omega
                case rel => exact ⟨j + 1, by simp, by omega, unhide HF⟩
              | zero =>
                have hjz : ¬ ((j : Int) < (nS : Int)) := by omega
                go_upto_region 53 with (go_at_call 7; refine (groupLen_all _ _ _ _ _).mono ?_; rintro e wL ⟨rfl, hbL⟩; (first | (replace HF := hide ((unhide HF).stay hbL)) | (replace HF := hide ((unhide HF).drew.stay hbL))); clear hbL; replace ca0 := (unhide HF).a.c0; replace ca1 := (unhide HF).a.c1; replace cb0 := (unhide HF).b.c0; replace cb1 := (unhide HF).b.c1; replace cs0 := (unhide HF).s.c0; replace cs1 := (unhide HF).s.c1; replace ct0 := (unhide HF).t.c0; replace ct1 := (unhide HF).t.c1)
                go_cut [229] from 219 to 228 (fun s229 wx => s229 = .bool false ∧ Hid (Four w a9 p9 k9 nS dS rS a10 p10 k10 (nS + 1) dS rT a11 p11 k11 nS dS rS a12 p12 k12 (nS + 1) dS rT wx))
                case first =>
                  go_region_with (first | (go_at_call 7; refine (groupLen_all _ _ _ _ _).mono ?_; rintro e wL ⟨rfl, hbL⟩; (first | (replace HF := hide ((unhide HF).stay hbL)) | (replace HF := hide ((unhide HF).drew.stay hbL))); clear hbL; replace ca0 := (unhide HF).a.c0; replace ca1 := (unhide HF).a.c1; replace cb0 := (unhide HF).b.c0; replace cb1 := (unhide HF).b.c1; replace cs0 := (unhide HF).s.c0; replace cs1 := (unhide HF).s.c1; replace ct0 := (unhide HF).t.c0; replace ct1 := (unhide HF).t.c1) | (go_at_call 16; refine (groupDelay_any _ _ _ _ _).mono ?_; rintro e wD ⟨rfl, hbD⟩; (first | (replace HF := hide ((unhide HF).stay hbD)) | (replace HF := hide ((unhide HF).drew.stay hbD))); clear hbD; replace ca0 := (unhide HF).a.c0; replace ca1 := (unhide HF).a.c1; replace cb0 := (unhide HF).b.c0; replace cb1 := (unhide HF).b.c1; replace cs0 := (unhide HF).s.c0; replace cs1 := (unhide HF).s.c1; replace ct0 := (unhide HF).t.c0; replace ct1 := (unhide HF).t.c1))
                  all_goals
                    go_wp2
                    go_meet
                    exact ⟨rfl, unhide HF⟩
                obtain ⟨rfl, HF'⟩ := hcut
                clear HF
                have HF := HF'
                clear HF'
                replace ca0 := (unhide HF).a.c0; replace ca1 := (unhide HF).a.c1; replace cb0 := (unhide HF).b.c0; replace cb1 := (unhide HF).b.c1; replace cs0 := (unhide HF).s.c0; replace cs1 := (unhide HF).s.c1; replace ct0 := (unhide HF).t.c0; replace ct1 := (unhide HF).t.c1
                go_wp2
                go_loopg [34, 35, 36, 37, 38] (nS + 1) (fun gf s34 s35 s36 s37 s38 wx => ∃ m : Nat, s34 = .int .i64 m ∧ m + gf = nS + 1 ∧ Hid (Four w a9 p9 k9 nS dS rS a10 p10 k10 (nS + 1) dS rT a11 p11 k11 nS dS rS a12 p12 k12 (nS + 1) dS rT wx))
                case atStart => exact ⟨0, rfl, by omega, unhide HF⟩
                case round =>
                  clear HF
                  obtain ⟨m, rfl, hm, HF⟩ := hrel
                  replace ca0 := (unhide HF).a.c0; replace ca1 := (unhide HF).a.c1; replace cb0 := (unhide HF).b.c0; replace cb1 := (unhide HF).b.c1; replace cs0 := (unhide HF).s.c0; replace cs1 := (unhide HF).s.c1; replace ct0 := (unhide HF).t.c0; replace ct1 := (unhide HF).t.c1
                  cases gk with
                  | succ g =>
                    have hmz : (m : Int) < (nS : Int) + 1 := by omega
                    have hwm : IntKind.i64.wrap ((m : Int) + 1) = (m : Int) + 1 := wrapJ_id _ (by omega)
                    obtain ⟨⟨al, v⟩, hx⟩ : ∃ x, rT[m]? = some x := ⟨rT[m]'(by have := unhide HnT; omega), List.getElem?_eq_getElem (by have := unhide HnT; omega)⟩
                    have HQa := hide (fun W (h : Four w a9 p9 k9 nS dS rS a10 p10 k10 (nS + 1) dS rT a11 p11 k11 nS dS rS a12 p12 k12 (nS + 1) dS rT W) => groupRule_n p10 k10 m (nS + 1) dS rT al v W (unhide HnT) h.b.rs hx)
                    have HQc := hide (fun W (h : Four w a9 p9 k9 nS dS rS a10 p10 k10 (nS + 1) dS rT a11 p11 k11 nS dS rS a12 p12 k12 (nS + 1) dS rT W) => groupRule_n p12 k12 m (nS + 1) dS rT al v W (unhide HnT) h.t.rs hx)
                    clear hx
                    go_wp2_with (go_at_call 8; first | (refine (unhide HQb _ (unhide HF)).mono ?_; clear HQb; rintro e wR ⟨rfl, hbR⟩; (first | (replace HF := hide ((unhide HF).stay hbR)) | (replace HF := hide ((unhide HF).drew.stay hbR))); clear hbR; replace ca0 := (unhide HF).a.c0; replace ca1 := (unhide HF).a.c1; replace cb0 := (unhide HF).b.c0; replace cb1 := (unhide HF).b.c1; replace cs0 := (unhide HF).s.c0; replace cs1 := (unhide HF).s.c1; replace ct0 := (unhide HF).t.c0; replace ct1 := (unhide HF).t.c1) | (refine (unhide HQa _ (unhide HF)).mono ?_; rintro e wR ⟨rfl, hbR⟩; (first | (replace HF := hide ((unhide HF).stay hbR)) | (replace HF := hide ((unhide HF).drew.stay hbR))); clear hbR; replace ca0 := (unhide HF).a.c0; replace ca1 := (unhide HF).a.c1; replace cb0 := (unhide HF).b.c0; replace cb1 := (unhide HF).b.c1; replace cs0 := (unhide HF).s.c0; replace cs1 := (unhide HF).s.c1; replace ct0 := (unhide HF).t.c0; replace ct1 := (unhide HF).t.c1; have HQb := hide (unhide HQc)))
                    go_roundg g
                    case measure => omega
                    case rel => exact ⟨m + 1, by simp, by omega, unhide HF⟩
                  | zero =>
                    have hmz : ¬ ((m : Int) < (nS : Int) + 1) := by omega
                    go_wp2
                    go_ret
                    exact ⟨rfl, (unhide HF).below⟩
end Go.Proofs.Qxb6615497aGreatDoor
