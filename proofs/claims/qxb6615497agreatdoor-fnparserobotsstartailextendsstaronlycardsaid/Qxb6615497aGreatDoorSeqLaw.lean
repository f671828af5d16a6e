import Derived.RangeFuncFrom
/- A range over an iterator that writes a captured variable of its own (the closure of strings.SplitSeq), the body going on or returning. Over the guide laws on range over functions. -/
namespace Go.Proofs.Qxb6615497aGreatDoor
open Go Go.RowKit

/-- The cells of kp read in W' as they read in W. -/
def Keeps (kp : Addr → Prop) (W W' : World) : Prop := ∀ p, kp p → W'.cell? p = W.cell? p ∧ W'.frozen? p = W.frozen? p
theorem Keeps.trans {kp : Addr → Prop} {A B C : World} (h : Keeps kp A B) (k : Keeps kp B C) : Keeps kp A C := fun p hp => ⟨(k p hp).1.trans (h p hp).1, (k p hp).2.trans (h p hp).2⟩

/-- The contract of such an iterator: it gives xs, or a part of them; between two rounds it may store into the cell bx; a round keeps the cells kp. -/
def Gives {α : Type} (F : Fence) (n : Nat) (P : Program) (g : Nat) (lb : Array Value) (enc : α → Value) (bx : Addr) (kp : Addr → Prop) (xs : List α) (w : World) : Prop :=
  ∀ (l : Nat) (J Jx : List α → World → Prop) (W : World), Below w.heap.size w W →
    (∀ pre W v, J pre W → J pre (W.setCell bx v)) →
    (∀ pre x W1, pre ++ [x] <+: xs → J pre W1 → YieldAt F (n - 1) P l #[enc x] W1 fun e W' =>
      (e = .returned (.bool true) ∧ J (pre ++ [x]) W' ∧ Keeps kp W1 W') ∨ (e = .returned (.bool false) ∧ Jx (pre ++ [x]) W')) →
    J [] W →
    CallsIn F n P g (#[.func (.yield l) #[] #[]] ++ lb) W fun e W' => (∃ v, e = .returned v) ∧ (J xs W' ∨ ∃ pre, pre <+: xs ∧ Jx pre W')

/-- How the body of a round may be left: it goes on, or it returns. -/
def goesOrReturns (kp : Addr → Prop) (I Ix : World → Prop) (W : World) : Exit → Act → World → Prop
  | .normal, _, W' => KeepsOthers W W' ∧ Keeps kp W W' ∧ I W'
  | .ret, _, W' => KeepsOthers W W' ∧ Ix W'
  | _, _, _ => False

theorem below_put {n₀ : Nat} (W : World) (l : Nat) (o o' : Obj) (h : W.heap[l]? = some o) (hn : n₀ ≤ l) : Below n₀ W (W.putObj l o') :=
  (Below.refl n₀ W).grown (grownBy_putObj' W l o') (by have := (Array.getElem?_eq_some_iff.1 h).1; omega) (fun k e => by cases e; omega)

theorem keeps_put {kp : Addr → Prop} (W : World) (l : Nat) (o o' : Obj) (h : W.heap[l]? = some o) (hk : ∀ p, kp p → p.block < l) : Keeps kp W (W.putObj l o') := fun p hp =>
  have hb := below_put W l o o' h (Nat.le_refl _)
  ⟨hb.cell (hk p hp), hb.frozen (hk p hp)⟩

variable {F : Fence} {n : Nat} {P : Program}

theorem range_gives {α : Type} {g : Operand} {p : Tmp} {assign body : Code} {Q : Exit → Act → World → Prop} {a : Act} {w : World}
    (hro : F.round = none) (h1 : 1 ≤ n) {gf : Nat} {lb : Array Value} (hg : a.eval g = .func (.func gf) #[] lb) (hFg : F.fn gf) (eg : ∀ args w, (callFunc gf args).run P w = .ok (.enter gf args) w)
    {enc : α → Value} {bx : Addr} {kp : Addr → Prop} {xs : List α} (hbx : bx.block < w.heap.size) (hkp : ∀ p, kp p → p.block < w.heap.size) (hseq : Gives F (n - 1) P gf lb enc bx kp xs w)
    (I Ix : List α → World → Prop) (hI : OwnFrom w.heap.size I) (hIx : OwnFrom w.heap.size Ix) (hIb : ∀ pre W v, I pre W → I pre (W.setCell bx v)) (h0 : I [] w) (a₁ : α → Act)
    (hassign : ∀ (l : Nat) (x : α) (W : World) (K : Act → World → Prop), K (a₁ x) W →
      assign.wpIn (F.inRound l) (n - 1 - 1) P (Exit.then K (fun _ _ _ => False)) { tmps := (#[p].zip #[enc x]).foldl (fun t (p, v) => t.setIfInBounds p v) a.tmps, defers := [] } W)
    (hbody : ∀ (l : Nat) (pre : List α) (x : α) (W : World), pre ++ [x] <+: xs → I pre W → body.wpIn (F.inRound l) (n - 1 - 1) P (goesOrReturns kp (I (pre ++ [x])) (Ix (pre ++ [x])) W) (a₁ x) W)
    (hdone : ∀ (D : Nat) (W : World), w.heap.size ≤ D → I xs W → W.heap[D]? = some (.deferred (some [])) → Q .normal { a with defers := { target := .collected D, args := #[] } :: a.defers } W)
    (hstop : ∀ (D : Nat) (pre : List α) (W : World), w.heap.size ≤ D → pre <+: xs → Ix pre W → W.heap[D]? = some (.deferred (some [])) → Code.ret.wpIn F n P Q { a with defers := { target := .collected D, args := #[] } :: a.defers } W) :
    (Code.rangeFunc g #[p] assign body).wpIn F n P Q a w := by
  refine wpIn_rangeFunc fun fn hfn => ?_
  rw [hro]
  -- the loop's record, in each of its states
  obtain ⟨rec, hrec⟩ : ∃ rec : LoopState → Option Code → Loop, rec = fun st pe => { state := st, pending := pe, fn, tmps := a.tmps, params := #[p], assign, body, defers := w.heap.size } := ⟨_, rfl⟩
  let L := w.heap.size + 1
  obtain ⟨W1, hW1⟩ : ∃ W1, (w.alloc (.deferred (some []))).alloc (.loop (rec .ready none)) = W1 := ⟨_, rfl⟩
  have hL1 : W1.heap[L]? = some (.loop (rec .ready none)) := by
    rw [← hW1]; have := World.alloc_heap_new (w.alloc (.deferred (some []))) (.loop (rec .ready none)); rwa [World.size_alloc] at this
  have hK1 : W1.heap[w.heap.size]? = some (.deferred (some [])) := by
    rw [← hW1]; exact (Below.heap_alloc _ _ _ (by simp)).trans (World.alloc_heap_new w _)
  have hI1 : I [] W1 := by rw [← hW1]; exact hI.alloc _ (hI.alloc _ h0)
  have hb1 : Below w.heap.size w W1 := by
    rw [← hW1]; exact ((Below.refl _ w).alloc (Nat.le_refl _) _).alloc (by simp) _
  refine ⟨L, [{ target := .collected w.heap.size, args := #[] }], W1, { target := .fn (.func gf) lb, args := #[.func (.yield L) #[] #[]] }, W1, gf,
    #[.func (.yield L) #[] #[]] ++ lb, W1, ?_, ?_, ?_, ?_, fun _ => h1, ?_⟩
  · rw [← hW1, hrec]; exact run_enterLoop_outer _ _ _ _ _
  · simp only [resolve, hg]
    simp [go_sem]
  · intro f' hf'; simp [Target.leads] at hf'; subst hf'; exact hFg
  · simp [invoke, go_sem, eg]
  refine (hseq L (fun pre W => I pre W ∧ W.heap[L]? = some (.loop (rec .ready none)) ∧ W.heap[w.heap.size]? = some (.deferred (some [])))
      (fun pre W => Ix pre W ∧ W.heap[L]? = some (.loop (rec .done (some .ret))) ∧ W.heap[w.heap.size]? = some (.deferred (some []))) W1 hb1
      (fun pre W v hs => ⟨hIb pre W v hs.1, (Below.heap_setCell W bx v _ (by show w.heap.size + 1 ≠ _; omega)).trans hs.2.1, (Below.heap_setCell W bx v _ (by omega)).trans hs.2.2⟩) ?_ ⟨hI1, hL1, hK1⟩).mono ?_
  · -- one round
    rintro pre x W hpx ⟨hi, hl, hk⟩
    have hlt : L < W.heap.size := (Array.getElem?_eq_some_iff.1 hl).1
    have hy := run_yield (P := P) (args := #[enc x]) hl (by rw [hrec]; rfl)
    rw [hrec] at hy
    refine ⟨fn, _, assign, body, hy, roundIn_of_wpIn hfn (hassign _ x W _ ⟨_, run_beginRound hl (by rw [hrec]), ?_⟩)⟩
    have hl2 : (W.putObj L (.loop { rec .ready none with state := .busy })).heap[L]? = some (.loop { rec .ready none with state := .busy }) := World.putObj_heap_same hlt
    have hk2 : (W.putObj L (.loop { rec .ready none with state := .busy })).heap[w.heap.size]? = some (.deferred (some [])) := (World.putObj_heap_other (by show w.heap.size ≠ w.heap.size + 1; omega)).trans hk
    have ends : ∀ (jump : Option Code) (W3 : World), KeepsOthers (W.putObj L (.loop { rec .ready none with state := .busy })) W3 →
        (Instr.endRound L jump).run P W3 = .ok (.bool jump.isNone) (W3.putObj L (.loop (rec (if jump.isNone then .ready else .done) jump))) ∧
        W3.heap[L]? = some (.loop { rec .ready none with state := .busy }) ∧
        (W3.putObj L (.loop (rec (if jump.isNone then .ready else .done) jump))).heap[L]? = some (.loop (rec (if jump.isNone then .ready else .done) jump)) ∧
        (W3.putObj L (.loop (rec (if jump.isNone then .ready else .done) jump))).heap[w.heap.size]? = some (.deferred (some [])) := fun jump W3 hk3 => by
      have hl3 := hk3.same _ _ hl2 rfl
      have := run_endRound (P := P) jump hl3
      rw [hrec] at this ⊢
      exact ⟨this, by rw [hrec] at hl3; exact hl3, World.putObj_heap_same (Array.getElem?_eq_some_iff.1 hl3).1, (World.putObj_heap_other (by show w.heap.size ≠ w.heap.size + 1; omega)).trans (hk3.same _ _ hk2 rfl)⟩
    have hLw : w.heap.size ≤ L := Nat.le_succ _
    refine wpIn_mono (hbody _ pre x _ hpx (hI.putObj _ hi hLw hl rfl)) ?_
    rintro e a3 W3 hp
    cases e with
    | normal =>
      obtain ⟨hk3, hkp3, hi3⟩ := hp
      obtain ⟨hr, hl3, hl4, hk4⟩ := ends none W3 hk3
      exact ⟨_, _, hr, .inl ⟨rfl, ⟨hI.putObj _ hi3 hLw hl3 rfl, hl4, hk4⟩, ((keeps_put W L _ _ hl (fun p hp => Nat.lt_of_lt_of_le (hkp p hp) hLw)).trans hkp3).trans (keeps_put W3 L _ _ hl3 (fun p hp => Nat.lt_of_lt_of_le (hkp p hp) hLw))⟩⟩
    | ret =>
      obtain ⟨hk3, hi3⟩ := hp
      obtain ⟨hr, hl3, hl4, hk4⟩ := ends (some .ret) W3 hk3
      exact ⟨_, _, hr, .inr ⟨rfl, hIx.putObj _ hi3 hLw hl3 rfl, hl4, hk4⟩⟩
    | exit id => exact hp.elim
    | goto t => exact hp.elim
    | panic ch => exact hp.elim
    | outgrown => exact hp.elim
  · -- behind the iterator
    rintro e W2 ⟨⟨v, rfl⟩, (⟨hi, hl, hk⟩ | ⟨pre, hSp, hi, hl, hk⟩)⟩
    · exact ⟨none, _, by have := run_endLoop (P := P) hl (by rw [hrec]; simp); rw [hrec] at this; exact this, hdone _ _ (Nat.le_refl _) (hI.putObj _ hi (Nat.le_succ _) hl rfl) ((World.putObj_heap_other (by show w.heap.size ≠ w.heap.size + 1; omega)).trans hk)⟩
    · exact ⟨some .ret, _, by have := run_endLoop (P := P) hl (by rw [hrec]; simp); rw [hrec] at this; exact this, hstop _ pre _ (Nat.le_refl _) hSp (hIx.putObj _ hi (Nat.le_succ _) hl rfl) ((World.putObj_heap_other (by show w.heap.size ≠ w.heap.size + 1; omega)).trans hk)⟩

end Go.Proofs.Qxb6615497aGreatDoor
