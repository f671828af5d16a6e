import Derived.Test.Qxb6615497aGreatDoorW1
import Derived.BigQuiet
import Derived.Below
import Derived.OwnWalk
import Derived.Laws.OwnMore
import Derived.Laws.MakeOwn
import Derived.Laws.CopyOwn
import Derived.Lib.AppendStr
import Derived.Deep.CutRange
import Derived.Deep.CutBlock
import Derived.Deep.DeepCutAuto
import Derived.Deep.LoopGhost
import Derived.Deep.AppendLies
/- FnParseRobotsStarTailExtendsStarOnly: the small callees, the two bodies. -/
namespace Go.Proofs.Qxb6615497aGreatDoor
open Go Go.RowKit

theorem belowDrewM {n : Nat} {w w' : World} (h : Below n w w') : ∀ q, Below n w (w'.drewN q)
  | 0 => h
  | q + 1 => (belowDrewM h q).drew

set_option maxHeartbeats 1000000 in
theorem groupLen_all (p : Option Addr) (l k : Nat) (d : Int) (w : World) :
    Calls Tryz.prog 7 #[.agg #[.slice p l k, .int .i64 d]] w fun e w' => e = .returned (.int .i64 l) ∧ Below w.heap.size w w' := by
  go_enter Tryz.func7, Tryz.ntmps7
  go_wp2
  go_ret
  exact ⟨rfl, (Below.refl _ w).alloc (Nat.le_refl _) _⟩

/-- the rules lie behind p. -/
def RuleCells (p : Option Addr) (rs : List (Bool × ByteArray)) (W : World) : Prop := ∀ (i : Nat) (a : Bool) (v : ByteArray), rs[i]? = some (a, v) → ∃ g, p = some ⟨g, 0, none⟩ ∧ W.cell? ⟨g, i * 5, none⟩ = some (.bool a) ∧ W.cell? ⟨g, i * 5 + 1, none⟩ = some (.string v)
theorem RuleCells.below {p : Option Addr} {rs : List (Bool × ByteArray)} {W W' : World} (h : RuleCells p rs W) (hb : Below W.heap.size W W') : RuleCells p rs W' := fun i a v hi => by
  obtain ⟨g, e, h0, h1⟩ := h i a v hi
  exact ⟨g, e, (hb.cell (p := ⟨g, i * 5, none⟩) (block_lt_of_cell h0)).trans h0, (hb.cell (p := ⟨g, i * 5 + 1, none⟩) (block_lt_of_cell h1)).trans h1⟩
set_option maxHeartbeats 1000000 in
theorem groupDelay_any (p : Option Addr) (l k : Nat) (d : Int) (w : World) :
    Calls Tryz.prog 16 #[.agg #[.slice p l k, .int .i64 d]] w fun e w' => e = .returned (.int .i64 d) ∧ Below w.heap.size w w' := by
  go_enter Tryz.func16, Tryz.ntmps16
  go_wp2
  go_ret
  exact ⟨rfl, (Below.refl _ w).alloc (Nat.le_refl _) _⟩

set_option maxHeartbeats 1000000 in
theorem groupRule_at (g n cap i : Nat) (hi : i < n) (d : Int) (al : Bool) (v : ByteArray) (w : World) (h0 : w.cell? ⟨g, i * 5, none⟩ = some (.bool al)) (h1 : w.cell? ⟨g, i * 5 + 1, none⟩ = some (.string v)) :
    Calls Tryz.prog 8 #[.agg #[.slice (some ⟨g, 0, none⟩) n cap, .int .i64 d], .int .i64 i] w fun e w' => e = .returned (.tuple #[.bool al, .string v]) ∧ Below w.heap.size w w' := by
  have hlt : g < w.heap.size := block_lt_of_cell h0
  have hiz : (i : Int) < (n : Int) := by omega
  go_enter Tryz.func8, Tryz.ntmps8
  go_wp2
  go_quiet (fail)
  go_wp2
  go_ret2
  exact ⟨rfl, belowDrewM ((Below.refl _ w).alloc (Nat.le_refl _) _) _⟩
theorem groupRule_is (p : Option Addr) (cap i : Nat) (d : Int) (rs : List (Bool × ByteArray)) (al : Bool) (v : ByteArray) (w : World) (h : RuleCells p rs w) (hi : rs[i]? = some (al, v)) :
    Calls Tryz.prog 8 #[.agg #[.slice p rs.length cap, .int .i64 d], .int .i64 i] w fun e w' => e = .returned (.tuple #[.bool al, .string v]) ∧ Below w.heap.size w w' := by
  obtain ⟨g, rfl, h0, h1⟩ := h i al v hi
  exact groupRule_at g rs.length cap i (List.getElem?_eq_some_iff.1 hi).1 d al v w h0 h1

/-- some bool. -/
def IsBool (e : Ending) : Prop := ∃ b, e = .returned (.bool b)

set_option maxHeartbeats 1000000 in
theorem zzBytes_any (p : Option Addr) (n c : Nat) (hn : n ≤ 9223372036854775807) (tok : ByteArray) (ht : tok.size ≤ 9223372036854775807) (w : World) :
    Calls Tryz.prog 17 #[.slice p n c, .string tok] w fun e w' => IsBool e ∧ w' = w := by
  by_cases h1 : (1048576 : Int) < n
  · go_enter Tryz.func17, Tryz.ntmps17
    go_wp2
    go_ret
    exact ⟨⟨_, rfl⟩, rfl⟩
  · by_cases h3 : (1048576 : Int) < tok.size
    · go_enter Tryz.func17, Tryz.ntmps17
      go_wp2
      go_ret
      exact ⟨⟨_, rfl⟩, rfl⟩
    · by_cases h4 : (1048576 : Int) < (n : Int) + (tok.size : Int)
      · go_enter Tryz.func17, Tryz.ntmps17
        go_wp2
        go_ret
        exact ⟨⟨_, rfl⟩, rfl⟩
      · go_enter Tryz.func17, Tryz.ntmps17
        go_wp2
        go_ret
        exact ⟨⟨_, rfl⟩, rfl⟩

/-- the group at blk. -/
structure AtG (blk : Nat) (p : Option Addr) (k : Nat) (g : List (Bool × ByteArray) × Int) (W : World) : Prop where
  c0 : W.cell? ⟨blk, 0, none⟩ = some (.slice p g.1.length k)
  c1 : W.cell? ⟨blk, 1, none⟩ = some (.int .i64 g.2)
  rs : RuleCells p g.1 W
theorem AtG.below {blk : Nat} {p : Option Addr} {k : Nat} {g : List (Bool × ByteArray) × Int} {W W' : World} (h : AtG blk p k g W) (hb : Below W.heap.size W W') : AtG blk p k g W' :=
  ⟨(hb.cell (p := ⟨blk, 0, none⟩) (block_lt_of_cell h.c0)).trans h.c0, (hb.cell (p := ⟨blk, 1, none⟩) (block_lt_of_cell h.c1)).trans h.c1, h.rs.below hb⟩

/-- v is nil, or a row of the bytes l. -/
def BodyIs (v : Value) (l : List UInt8) (W : World) : Prop := (v = .slice none 0 0 ∧ l = []) ∨ ∃ b c, v = .slice (some ⟨b, 0, none⟩) l.length c ∧ l.length ≤ c ∧ ∀ i x, l[i]? = some x → W.cell? ⟨b, 0 + i, none⟩ = some (.int .u8 (x.toNat : Int))
theorem BodyIs.below {v : Value} {l : List UInt8} {W W' : World} (h : BodyIs v l W) (hb : Below W.heap.size W W') : BodyIs v l W' := by
  rcases h with h | ⟨b, c, h1, h2, h3⟩
  · exact .inl h
  · exact .inr ⟨b, c, h1, h2, fun i x hi => (hb.cell (p := ⟨b, 0 + i, none⟩) (block_lt_of_cell (h3 i x hi))).trans (h3 i x hi)⟩

def u8Cells (l : List UInt8) : List Value := l.map fun b => Value.int .u8 (b.toNat : Int)
theorem u8Cells_at (l : List UInt8) (j : Nat) (u : Value) (h : (u8Cells l)[j]? = some u) : ∃ x, l[j]? = some x ∧ u = .int .u8 (x.toNat : Int) := by
  unfold u8Cells at h
  rw [List.getElem?_map] at h
  cases hx : l[j]? with
  | none => rw [hx] at h; cases h
  | some x => rw [hx] at h; injection h with h; exact ⟨x, rfl, h.symm⟩
theorem u8Cells_one (l : List UInt8) : ∀ u ∈ u8Cells l, u.oneCell' = true := by
  intro u hu
  obtain ⟨x, _, rfl⟩ := List.mem_map.1 hu
  rfl
theorem u8Cells_len (l : List UInt8) : (u8Cells l).length = l.length := by unfold u8Cells; simp

theorem info5 : ∃ i, Tryz.prog.info? 5 = some i ∧ i.zero = some (.int .u8 0) ∧ i.size = 1 ∧ i.bytes = 1 := info_parts (P := Tryz.prog) (e := 5) (z := .int .u8 0) (size := 1) (bytes := 1) (by kernel_rfl)

/-- append(v, body...). -/
theorem wpList_append_body {w : World} {ops : Array Oper} {rest : List Oper} {o : Oper} {a : Act} {Q : Exit → Act → World → Prop} (hgd : o.guard = none) (s x : Operand)
    (ho : o.op = .call { callee := .builtin .append, args := #[s, x], argTypes := #[22, 22] }) (base : Nat) (v : Value) (n : Nat) (xs : List Value) (hs : a.eval s = v) (hown : w.ownsRow base 5 1 v n xs)
    (bv : Value) (l : List UInt8) (hx : a.eval x = bv) (hB : BodyIs bv l w) (hn : n + l.length ≤ 16777216) (hbase : base ≤ w.heap.size)
    (h : ∀ v' w', w'.ownsRow base 5 1 v' (n + l.length) (xs ++ u8Cells l) → w.grownBy w' v.ownBlock → wpList Tryz.prog ops Q rest (a.put o.dst v') w') : wpList Tryz.prog ops Q (o :: rest) a w := by
  obtain ⟨i0, hi, hz0, hz1, hzb⟩ := info5
  rcases hB with ⟨rfl, rfl⟩ | ⟨b, c, rfl, hc, hH⟩
  · refine wpList_plain hgd fun K hK => ?_
    have hrun := run_append_owned_none (P := Tryz.prog) (w := w) base 22 o.type 5 i0 1 Tryz.underlying22 hi v n xs hown
    unfold Oper.wp execOp
    simp only [ho, resolve, invoke, builtin, Sem.run_bind, Sem.run_pure, Result.andThen_ok, List.map_toArray, List.map_cons, List.map_nil, hs, hx, hrun]
    exact hK _ _ (h v w (by simpa [u8Cells] using hown) (World.grownBy.refl w _))
  · refine wpList_append_own _ hgd s x 22 ho base 5 i0 (.int .u8 0) 1 1 Tryz.underlying22 hi hz0 hz1 hzb rfl (by decide) v n xs hs hown ⟨b, 0, none⟩ l.length c (u8Cells l) hx (by rw [u8Cells_len]; omega) (fun j u hu => ?_) (u8Cells_one l) (by unfold maxLen; omega) (by omega) hbase (fun v' w' h1 h2 _ => h v' w' h1 h2)
    obtain ⟨y, hy, rfl⟩ := u8Cells_at l j u hu
    rw [Addr.add_lit]
    exact hH j y hy

/-- a row of bytes is a body. -/
theorem body_of_row {W : World} {base n : Nat} {v : Value} {l : List UInt8} (hown : W.ownsRow base 5 1 v n (u8Cells l)) (hn : n = l.length) (h0 : 0 < l.length) : BodyIs v l W := by
  subst hn
  obtain ⟨g, cap, rfl, _, _⟩ := hown.form h0
  have hc : l.length ≤ cap := by
    rcases hown.2 with ⟨h, _⟩ | ⟨g', cap', cur, h, _, _, h2, _⟩
    · cases h
    · injection h with h1 h3 h4
      omega
  refine .inr ⟨g, cap, rfl, hc, fun i x hi => ?_⟩
  have hl := (List.getElem?_eq_some_iff.1 hi).1
  rw [Nat.zero_add, hown.cellAt i (by omega)]
  unfold u8Cells
  rw [List.getElem?_map, hi]
  rfl

/-- the argument: nil, or bytes anywhere. -/
def ArgIs (v : Value) (l : List UInt8) (W : World) : Prop := (v = .slice none 0 0 ∧ l = []) ∨ ∃ ad c, v = .slice (some ad) l.length c ∧ ∀ j x, l[j]? = some x → W.cell? (ad.add j) = some (.int .u8 (x.toNat : Int))
end Go.Proofs.Qxb6615497aGreatDoor
