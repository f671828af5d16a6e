import Derived.Test.Qxb6605421aDoorPlain
import Derived.Test.Qxb6605421aDoorShelf
import Derived.Test.Qxb6605421aDoorRows
import Derived.WalkKit
import Derived.WalkSpells
import Derived.WalkLawsBesides
import Derived.Maps.Own
import Derived.Maps.OwnOps
import Derived.Maps.OwnSet
import Derived.BigQuiet
import Derived.Deep.RegionWith
import Derived.Deep.QuietTactic
namespace Go.Proofs.Qxb6605421aDoor
open Go.RowKit Go.Maps

theorem wpList_insert_own {H : Type} {P : Program} (w : World) {ops : Array Oper} {rest : List Oper} {o : Oper} {a : Act} {Q : Exit → Act → World → Prop}
    (hg : o.guard = none) (m x v : Operand) (t : TypeId) (hop : o.op = Op.insert t m x v)
    (k e : TypeId) (K : Keyed P k) (ht : P.underlying t = some (.map k e)) (R : Value → Option (DataW H × List MemPlace)) (b n : Nat) (D : DataW H)
    (hm : a.eval m = .map (some b)) (hown : w.ownsMap P k R b n D) (hn : n < maxLen) (key val : Value) (kl : Lit) (hx : a.eval x = key) (hv : a.eval v = val) (hkey : keyOf P k key = some kl)
    (d : DataW H) (ps : List MemPlace) (hval : R val = some (d, ps))
    (hK : ∀ w', w'.ownsMap P k R b (n + 1) (D.put kl d) → w.grownBy w' (some b) → wpList P ops Q rest (a.put o.dst undef) w') :
    wpList P ops Q (o :: rest) a w := by
  refine wpList_plain hg fun K' hK' => ?_
  obtain ⟨w', hrun, r1, r2⟩ := hown.update K ht hn hkey hval
  unfold Oper.wp
  simp [execOp, hop, hm, hx, hv, hrun, Result.andThen]
  exact hK' _ _ (hK w' r1 r2)

theorem law9 : Keyed Tryd.prog 9 := string_keyed Tryd.underlying9
theorem zero3 (w : World) : (zeroValue 3).run Tryd.prog w = .ok (.int .i64 0) w := by kernel_rfl


/-- the literal map{'1': 8, 'u': 10, '?': 1} and the look-up at one of its keys. -/
theorem tab_run (W : World) (kd : UInt8) (n : Int) (h : (kd = 49 ∧ n = 8) ∨ (kd = 117 ∧ n = 10) ∨ (kd = 63 ∧ n = 1)) :
    ∃ w2 w3 w4, (Instr.mapUpdate 60 (.map (some W.heap.size)) (.string { data := #[49] }) (.int .i64 8)).run Tryd.prog (W.alloc (.map #[] 0)) = .ok () w2
      ∧ (Instr.mapUpdate 60 (.map (some W.heap.size)) (.string { data := #[117] }) (.int .i64 10)).run Tryd.prog w2 = .ok () w3
      ∧ (Instr.mapUpdate 60 (.map (some W.heap.size)) (.string { data := #[63] }) (.int .i64 1)).run Tryd.prog w3 = .ok () w4
      ∧ (Instr.lookup 60 (.map (some W.heap.size)) (.string { data := #[kd] }) true).run Tryd.prog w4 = .ok (.tuple #[.int .i64 n, .bool true]) w4
      ∧ Below W.heap.size W w4 := by
  have hk : ∀ c : UInt8, keyOf Tryd.prog 9 (.string { data := #[c] }) = some (.string [c]) := fun c => by
    have := Go.WideMaps.keyOf_string_mk (P := Tryd.prog) (k := 9) Tryd.underlying9 (s := { data := #[c] }) (by show 1 ≤ maxLen; decide)
    simpa using this
  have hv : ∀ a : Int, -100 ≤ a → a ≤ 100 → plainElem (H := Unit) Tryd.prog 3 (.int .i64 a) = some (.lit (.int .i64 a), []) := fun a h1 h2 => plainElem_int Tryd.underlying3 (by
    have e1 : IntKind.i64.min = -9223372036854775808 := rfl
    have e2 : IntKind.i64.max = 9223372036854775807 := rfl
    simp [Lit.wf, e1, e2]; omega)
  have o1 := World.ownsMap_made (H := Unit) W Tryd.prog 9 (plainElem Tryd.prog 3)
  obtain ⟨w2, r2, o2, g2⟩ := o1.update law9 Tryd.underlying60 (by decide) (hk 49) (hv 8 (by omega) (by omega))
  obtain ⟨w3, r3, o3, g3⟩ := o2.update law9 Tryd.underlying60 (by decide) (hk 117) (hv 10 (by omega) (by omega))
  obtain ⟨w4, r4, o4, g4⟩ := o3.update law9 Tryd.underlying60 (by decide) (hk 63) (hv 1 (by omega) (by omega))
  obtain ⟨v, ps, r5, hR⟩ := o4.look_ok law9 Tryd.underlying60 (zero3 w4) (hv 0 (by omega) (by omega)) (hk kd)
  obtain ⟨c, rfl, hc, _⟩ := plainElem_int_inv Tryd.underlying3 hR
  refine ⟨w2, w3, w4, r2, r3, r4, ?_, ?_⟩
  · rw [r5]
    rcases h with ⟨rfl, rfl⟩ | ⟨rfl, rfl⟩ | ⟨rfl, rfl⟩
    · have h1 : (DataW.lit (Lit.int .i64 8) : DataW Unit) = .lit (.int .i64 c) := congrArg Prod.fst hc
      cases h1; rfl
    · have h1 : (DataW.lit (Lit.int .i64 10) : DataW Unit) = .lit (.int .i64 c) := congrArg Prod.fst hc
      cases h1; rfl
    · have h1 : (DataW.lit (Lit.int .i64 1) : DataW Unit) = .lit (.int .i64 c) := congrArg Prod.fst hc
      cases h1; rfl
  · have b1 : Below W.heap.size W (W.alloc (.map #[] 0)) := (Below.refl _ _).alloc (Nat.le_refl _) _
    have b2 := b1.grown g2 b1.size (fun k hk => by cases hk; exact Nat.le_refl _)
    have b3 := b2.grown g3 b2.size (fun k hk => by cases hk; exact Nat.le_refl _)
    exact b3.grown g4 b3.size (fun k hk => by cases hk; exact Nat.le_refl _)

theorem zzBytes14_any (b : Bool) (q s : ByteArray) (w : World) (hq : q.size ≤ maxLen) (hs : s.size ≤ maxLen) :
    Calls Tryd.prog 14 #[.bool b, .string q, .string s] w fun e w' => ∃ b, e = .returned (.bool b) ∧ w' = w := by
  unfold maxLen at hq hs
  go_enter Tryd.func14, Tryd.ntmps14
  go_wp2
  all_goals (go_ret; exact ⟨_, rfl, rfl⟩)

theorem zzBytes16_any (b : Bool) (q : ByteArray) (w : World) (hq : q.size ≤ maxLen) :
    Calls Tryd.prog 16 #[.string q, .bool b] w fun e w' => ∃ b, e = .returned (.bool b) ∧ w' = w := by
  unfold maxLen at hq
  go_enter Tryd.func16, Tryd.ntmps16
  go_wp2
  all_goals (go_ret; exact ⟨_, rfl, rfl⟩)

theorem size_drew (w : World) (o : Obj) (n : Nat) : ((w.alloc o).drewN n).heap.size = w.heap.size + 1 := Array.size_push ..

/-- the result's cell. -/
def resObj : Obj := Obj.cells #[Value.string { data := #[] }, Value.bool false] 44
theorem res0 (w : World) : (w.alloc resObj).cell? ⟨w.heap.size, 0, none⟩ = some (.string { data := #[] }) := by
  unfold resObj; rw [World.cell?_alloc_mark]; rfl
theorem res1 (w : World) : (w.alloc resObj).cell? ⟨w.heap.size, 1, none⟩ = some (.bool false) := by
  unfold resObj; rw [World.cell?_alloc_mark]; rfl
theorem res0f (w : World) : (w.alloc resObj).frozen? ⟨w.heap.size, 0, none⟩ = false := by
  unfold resObj; rw [World.frozen?_alloc_mark]; rfl
theorem res1f (w : World) : (w.alloc resObj).frozen? ⟨w.heap.size, 1, none⟩ = false := by
  unfold resObj; rw [World.frozen?_alloc_mark]; rfl

/-- SplitN at a blank, where the pieces are known. -/
theorem splitN_known (s : ByteArray) (n : Nat) (L : List ByteArray) (m : Int) (w : World) (hs : s.size ≤ 16777216) (hm : w.cell? ⟨3, 0, none⟩ = some (.int .i64 m)) (hn : n ≤ s.size) (hn2 : n ≤ 100)
    (hL : Lib.splitB sp 0 n s = L) (hl : L.length = n + 1) :
    Calls Tryd.prog 29 #[.string s, .string { data := #[32] }, .int .i64 (n + 1 : Nat)] w fun e w' =>
      ∃ W, Hid (W = w.alloc (.cells (L.map Value.string).toArray 9)) ∧ e = .returned (.slice (some ⟨w.heap.size, 0, none⟩) (n + 1) (n + 1)) ∧ w' = W := by
  have h := Tryd.strings_SplitN s { data := #[32] } (n + 1) m w (by omega) hm (by decide) (by omega) (by omega)
  have e1 : min (n + 1) (s.size + 1) = n + 1 := by omega
  have e2 : Lib.splitB { data := #[32] } 0 (n + 1 - 1) s = L := hL
  rw [e1, e2, hl] at h
  have e3 : Lib.cellsOf L (n + 1) = (L.map Value.string).toArray := by rw [← hl]; exact Lib.cellsOf_full L
  rw [e3] at h
  refine h.mono ?_
  rintro e w' ⟨h1, h2⟩
  exact ⟨w', hide h2, h1, rfl⟩

theorem piece (w : World) (L : List ByteArray) (j : Nat) (x : ByteArray) (h : L[j]? = some x) : (w.alloc (.cells (L.map Value.string).toArray 9)).cell? ⟨w.heap.size, j, none⟩ = some (.string x) := by
  rw [World.cell?_alloc_mark]; simp [h]

/-- what stands when the fields are split. -/
theorem stands {w w4 W : World} (L : List ByteArray) (hB : Below (w.heap.size + 1) (w.alloc resObj) w4) (hW : W = w4.alloc (.cells (L.map Value.string).toArray 9)) :
    W.cell? ⟨w.heap.size, 0, none⟩ = some (.string { data := #[] }) ∧ W.cell? ⟨w.heap.size, 1, none⟩ = some (.bool false) ∧ W.frozen? ⟨w.heap.size, 0, none⟩ = false ∧ W.frozen? ⟨w.heap.size, 1, none⟩ = false
      ∧ Below w.heap.size w W ∧ (∀ j x, L[j]? = some x → W.cell? ⟨w4.heap.size, j, none⟩ = some (.string x)) := by
  have hz : (w.alloc resObj).heap.size = w.heap.size + 1 := Array.size_push ..
  have h4 : w.heap.size + 1 ≤ w4.heap.size := by rw [← hz]; exact hB.size
  have hB5 : Below (w.heap.size + 1) (w.alloc resObj) W := by rw [hW]; exact hB.alloc h4 _
  refine ⟨?_, ?_, ?_, ?_, ?_, ?_⟩
  · rw [hB5.cell (Nat.lt_succ_self _)]; exact res0 w
  · rw [hB5.cell (Nat.lt_succ_self _)]; exact res1 w
  · rw [hB5.frozen (Nat.lt_succ_self _)]; exact res0f w
  · rw [hB5.frozen (Nat.lt_succ_self _)]; exact res1f w
  · exact ((Below.refl w.heap.size w).alloc (Nat.le_refl _) resObj).trans (hB5.mono (by omega))
  · intro j x h
    rw [hW]
    exact piece w4 L j x h

theorem two_below {w W : World} {u v : Value} (h : Below w.heap.size w W) : Below w.heap.size w ((W.setCell ⟨w.heap.size, 0, none⟩ u).setCell ⟨w.heap.size, 1, none⟩ v) :=
  (h.setCell (p := ⟨w.heap.size, 0, none⟩) (Nat.le_refl _) _).setCell (p := ⟨w.heap.size, 1, none⟩) (Nat.le_refl _) _

set_option maxRecDepth 100000 in
set_option maxHeartbeats 1000000 in
theorem listed_q (s p : ByteArray) (m : Int) (w : World) (hd : s.data.toList = 63 :: 32 :: p.data.toList) (hs : s.size ≤ 16777216) (hm : w.cell? ⟨3, 0, none⟩ = some (.int .i64 m)) :
    Calls Tryd.prog 19 #[.string s] w fun e w' => e = .returned (.tuple #[.agg #[.string ⟨(Lib.trimSuffix p.data.toList [47]).toArray⟩, .bool (Lib.hasSuffix p.data.toList [47])], .bool true]) ∧ Below w.heap.size w w' := by
  have hcut : Lib.cut s.data.toList (⟨#[32]⟩ : ByteArray).data.toList = ([63], p.data.toList, true) := by
    rw [hd]; exact cut_sp [63] p.data.toList (by decide)
  have h3 : (⟨3, 0, none⟩ : Addr).block < w.heap.size := World.block_lt_of_cell? _ _ hm
  have HCUT := hide ((Tryd.strings_Cut s ⟨#[32]⟩ m) (w := (w.alloc resObj)) (by omega) (by rw [← hm]; exact (((Below.refl w.heap.size w).alloc (Nat.le_refl _) _).cell (p := ⟨3, 0, none⟩) h3)))
  rw [hcut] at HCUT
  clear hcut
  have HSIZE := hide (show 1 ≤ s.size by have : s.size = s.data.toList.length := by simp
                                         rw [this, hd]; simp)
  have HSPL := hide (show Lib.splitB sp 0 1 s = [{ data := #[63] }, p] by rw [split_step { data := #[63] } s p 0 hd (by decide)]; rfl)
  have HM4 := hide (fun w4 (hB : Below (w.heap.size + 1) (w.alloc resObj) w4) => show w4.cell? ⟨3, 0, none⟩ = some (.int .i64 m) by
    rw [← hm, hB.cell (p := ⟨3, 0, none⟩) (Nat.lt_succ_of_lt h3)]
    exact (((Below.refl w.heap.size w).alloc (Nat.le_refl _) _).cell (p := ⟨3, 0, none⟩) h3))
  have HCS := hide (fun W => Tryd.strings_CutSuffix p ⟨#[47]⟩ W (by
    have e1 : s.size = s.data.toList.length := by simp
    have e2 : p.size = p.data.toList.length := by simp
    rw [hd] at e1
    simp only [List.length_cons] at e1
    omega))
  have hmm := @run_makeMap Tryd.prog
  have HHS := hide hs
  clear hd h3 hm hs
  go_enter Tryd.func19, Tryd.ntmps19
  go_wp2_with fail
  refine (unhide HCUT).mono ?_
  rintro e w1 ⟨rfl, n1, rfl⟩
  clear HCUT
  obtain ⟨w2, w3, w4, r2, r3, r4, r5, hb4⟩ := tab_run ((w.alloc resObj).drewN n1) 63 1 (by decide)
  rw [size_drew] at r2 r3 r4 r5 hb4
  have hb1 : Below (w.heap.size + 1) (w.alloc resObj) ((w.alloc resObj).drewN n1) := below_drewN (Below.refl _ _) n1
  have HB := hide (hb1.trans hb4)
  clear hb1 hb4
  go_wp2_with fail
  refine (splitN_known s 1 [{ data := #[63] }, p] m w4 (unhide HHS) (unhide HM4 w4 (unhide HB)) (unhide HSIZE) (by omega) (unhide HSPL) rfl).mono ?_
  rintro e w5 ⟨W, HW, rfl, rfl⟩
  obtain ⟨c0, c1, f0, f1, hB5, hp⟩ := stands _ (unhide HB) (unhide HW)
  have hp1 := hp 1 p rfl
  have HB5 := hide hB5
  clear hp hB5 HB HW r2 r3 r4 r5 HM4 HSPL HSIZE
  generalize w4.heap.size = B at hp1 ⊢
  go_wp2_with fail
  refine (unhide HCS _).mono ?_
  rintro e w6 ⟨rfl, rfl⟩
  go_wp2_with fail
  refine bodyPost_ret (v := .tuple #[.agg #[.string ⟨(Lib.trimSuffix p.data.toList [47]).toArray⟩, .bool (Lib.hasSuffix p.data.toList [47])], .bool true]) (by simp [results, Tryd.results19, go_sem, c0, c1]) rfl ⟨rfl, two_below (unhide HB5)⟩

set_option maxRecDepth 100000 in
set_option maxHeartbeats 2000000 in
theorem listed_c (kd : UInt8) (n : Nat) (s x2 path : ByteArray) (r : List UInt8) (L : List ByteArray) (m : Int) (w : World) (hkn : (kd = 49 ∧ n = 8) ∨ (kd = 117 ∧ n = 10)) (hd : s.data.toList = kd :: 32 :: r) (hn : n ≤ s.size) (hs : s.size ≤ 16777216)
    (hspl : Lib.splitB sp 0 n s = L) (hl : L.length = n + 1) (h2 : L[2]? = some x2) (hpth : L[n]? = some path) (hm : w.cell? ⟨3, 0, none⟩ = some (.int .i64 m)) :
    Calls Tryd.prog 19 #[.string s] w fun e w' => e = .returned (.tuple #[.agg #[.string path, .bool (Lib.hasPrefix x2.data.toList [83])], .bool true]) ∧ Below w.heap.size w w' := by
  have hkd : kd ≠ 32 := by rcases hkn with ⟨rfl, _⟩ | ⟨rfl, _⟩ <;> decide
  have hcut : Lib.cut s.data.toList (⟨#[32]⟩ : ByteArray).data.toList = ([kd], r, true) := by
    rw [hd]; exact cut_sp [kd] r (by simpa using hkd)
  have h3 : (⟨3, 0, none⟩ : Addr).block < w.heap.size := World.block_lt_of_cell? _ _ hm
  have HCUT := hide ((Tryd.strings_Cut s ⟨#[32]⟩ m) (w := (w.alloc resObj)) (by omega) (by rw [← hm]; exact (((Below.refl w.heap.size w).alloc (Nat.le_refl _) _).cell (p := ⟨3, 0, none⟩) h3)))
  rw [hcut] at HCUT
  clear hcut
  have HM4 := hide (fun w4 (hB : Below (w.heap.size + 1) (w.alloc resObj) w4) => show w4.cell? ⟨3, 0, none⟩ = some (.int .i64 m) by
    rw [← hm, hB.cell (p := ⟨3, 0, none⟩) (Nat.lt_succ_of_lt h3)]
    exact (((Below.refl w.heap.size w).alloc (Nat.le_refl _) _).cell (p := ⟨3, 0, none⟩) h3))
  have hmm := @run_makeMap Tryd.prog
  have HALL := hide (And.intro hspl (And.intro hl (And.intro h2 (And.intro hpth (And.intro hn hs)))))
  have HPRE := hide (Tryd.strings_HasPrefix x2 ⟨#[83]⟩)
  clear hd h3 hm hs hspl hl h2 hpth hn hkd
  rcases hkn with ⟨rfl, rfl⟩ | ⟨rfl, rfl⟩
  · go_enter Tryd.func19, Tryd.ntmps19
    go_wp2_with fail
    refine (unhide HCUT).mono ?_
    rintro e w1 ⟨rfl, n1, rfl⟩
    clear HCUT
    obtain ⟨w2, w3, w4, r2, r3, r4, r5, hb4⟩ := tab_run ((w.alloc resObj).drewN n1) 49 8 (by decide)
    rw [size_drew] at r2 r3 r4 r5 hb4
    have hb1 : Below (w.heap.size + 1) (w.alloc resObj) ((w.alloc resObj).drewN n1) := below_drewN (Below.refl _ _) n1
    have HB := hide (hb1.trans hb4)
    clear hb1 hb4
    go_wp2_with fail
    obtain ⟨hspl, hl, h2, hpth, hn, hs⟩ := unhide HALL
    refine (splitN_known s _ L m w4 hs (unhide HM4 w4 (unhide HB)) hn (by omega) hspl hl).mono ?_
    rintro e w5 ⟨W, HW, rfl, rfl⟩
    obtain ⟨c0, c1, f0, f1, hB5, hp⟩ := stands _ (unhide HB) (unhide HW)
    have hp1 := hp _ _ hpth
    have hp2 := hp _ _ h2
    have HB5 := hide hB5
    clear hp hB5 HB HW r2 r3 r4 r5 HM4 hspl hl h2 hpth hn hs HALL
    generalize w4.heap.size = B at hp1 hp2 ⊢
    go_wp2_with fail
    go_region_with (go_at_call 31; refine (unhide HPRE _).mono ?_; rintro e w6 ⟨rfl, rfl⟩)
    all_goals
      go_wp2_with fail
      exact bodyPost_ret (v := .tuple #[.agg #[.string path, .bool (Lib.hasPrefix x2.data.toList [83])], .bool true]) (by simp [results, Tryd.results19, go_sem, c0, c1]) rfl ⟨rfl, (two_below (unhide HB5)).drew⟩
  · go_enter Tryd.func19, Tryd.ntmps19
    go_wp2_with fail
    refine (unhide HCUT).mono ?_
    rintro e w1 ⟨rfl, n1, rfl⟩
    clear HCUT
    obtain ⟨w2, w3, w4, r2, r3, r4, r5, hb4⟩ := tab_run ((w.alloc resObj).drewN n1) 117 10 (by decide)
    rw [size_drew] at r2 r3 r4 r5 hb4
    have hb1 : Below (w.heap.size + 1) (w.alloc resObj) ((w.alloc resObj).drewN n1) := below_drewN (Below.refl _ _) n1
    have HB := hide (hb1.trans hb4)
    clear hb1 hb4
    go_wp2_with fail
    obtain ⟨hspl, hl, h2, hpth, hn, hs⟩ := unhide HALL
    refine (splitN_known s _ L m w4 hs (unhide HM4 w4 (unhide HB)) hn (by omega) hspl hl).mono ?_
    rintro e w5 ⟨W, HW, rfl, rfl⟩
    obtain ⟨c0, c1, f0, f1, hB5, hp⟩ := stands _ (unhide HB) (unhide HW)
    have hp1 := hp _ _ hpth
    have hp2 := hp _ _ h2
    have HB5 := hide hB5
    clear hp hB5 HB HW r2 r3 r4 r5 HM4 hspl hl h2 hpth hn hs HALL
    generalize w4.heap.size = B at hp1 hp2 ⊢
    go_wp2_with fail
    go_region_with (go_at_call 31; refine (unhide HPRE _).mono ?_; rintro e w6 ⟨rfl, rfl⟩)
    all_goals
      go_wp2_with fail
      exact bodyPost_ret (v := .tuple #[.agg #[.string path, .bool (Lib.hasPrefix x2.data.toList [83])], .bool true]) (by simp [results, Tryd.results19, go_sem, c0, c1]) rfl ⟨rfl, (two_below (unhide HB5)).drew⟩
end Go.Proofs.Qxb6605421aDoor
