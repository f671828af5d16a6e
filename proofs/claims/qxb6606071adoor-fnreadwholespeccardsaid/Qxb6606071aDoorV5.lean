import Derived.Test.Qxb6606071aDoorE11
import Derived.Test.Qxb6606071aDoorRows
import Derived.Lib.LaidU8
/- what the row lists, as the walks want it. -/
namespace Go.Proofs.Qxb6606071aDoor.Fl
open Go Go.RowKit Go.Lib

theorem at_take1 {cs : List Value} {k : Nat} {v : Value} (h : (cs.drop k).take 1 = [v]) : cs[k]? = some v := by
  have := congrArg (·[0]?) h
  simpa [List.getElem?_take, List.getElem?_drop] using this

theorem slice_rows {n : String} {g : Nat} {t e : TypeId} {ds : List (DataW Unit)} {m : Nat} {w : World} (hn : Tryd.prog.globalNamed n = some g) (hy : (Tryd.prog.globals[g]?).map (·.type) = some t) (ht : Tryd.prog.underlying t = some (.slice e)) (hm : Tryd.prog.cellsOf e = m) (hm0 : 0 < m) (hd0 : 0 < ds.length) (h : VarReads Tryd.prog w n (.slice ds [])) :
    ∃ T oT cap, w.cell? ⟨g, 0, none⟩ = some (.slice (some ⟨T, oT, none⟩) ds.length cap) ∧ T < w.heap.size ∧ ∀ (i : Nat) (d : DataW Unit), ds[i]? = some d → ∃ (ce : List Value) (fuel : Nat) (q : List MemPlace), (∀ j, j < m → w.cell? ⟨T, oT + i * m + j, none⟩ = ce[j]?) ∧ DataW.trod (fun _ => ()) Tryd.prog w 0 (fun _ => true) false fuel e ce = some (d, q) := by
  obtain ⟨g', t', cs, fuel, p, hg, hty, hvar, hd⟩ := h
  obtain rfl := Option.some.inj (hn.symm.trans hg)
  obtain rfl := Option.some.inj (hy.symm.trans hty)
  rcases DataW.trod_slice ht hd with ⟨_, hx'⟩ | ⟨a', len, cap, el, rs, k, rfl, hc0, hx', _, hlc, _, hel, helem, hsp, _⟩
  · cases hx'
  have e0 := congrArg Prod.fst hx'
  simp only [DataW.slice.injEq] at e0
  obtain ⟨eE, eR⟩ := e0
  have hlen : len = ds.length := by rw [eE, List.length_map]; omega
  have hrow : ∀ (i : Nat) (d : DataW Unit), ds[i]? = some d → ∃ (ce : List Value) (q : List MemPlace), ce.length = m ∧ (∀ j, j < m → w.cell? ((a'.add (i * m)).add j) = ce[j]?) ∧ DataW.trod (fun _ => ()) Tryd.prog w 0 (fun _ => true) false k e ce = some (d, q) := by
    intro i d hi
    have hil : i < ds.length := (List.getElem?_eq_some_iff.1 hi).1
    have h1 := helem i (by omega)
    rw [hm] at h1
    obtain ⟨b, hb⟩ : ∃ b, el[i]? = some b := ⟨el[i]'(by omega), List.getElem?_eq_getElem (by omega)⟩
    rw [hb] at h1
    obtain ⟨ce, hce, hte⟩ := Option.bind_eq_some_iff.1 h1
    have hb1 : b.1 = d := by
      rw [eE, List.getElem?_map, hb] at hi
      simpa using hi
    obtain ⟨_, hcl, hcc⟩ := World.cells?_some hce
    exact ⟨ce, b.2, hcl, hcc, by rw [hte, ← hb1]⟩
  obtain ⟨R, oR, sR⟩ := a'
  have h00 : ∃ v, w.cell? ⟨R, oR, sR⟩ = some v := by
    obtain ⟨ce, q, hl, hc, _⟩ := hrow 0 ds[0] (List.getElem?_eq_getElem hd0)
    have := hc 0 hm0
    have e1 : (Addr.add (Addr.add ⟨R, oR, sR⟩ (0 * m)) 0) = ⟨R, oR, sR⟩ := by simp [Addr.add]
    rw [e1] at this
    exact ⟨ce[0], this.trans (List.getElem?_eq_getElem (by omega))⟩
  obtain ⟨v0, h00⟩ := h00
  obtain rfl := cell_spot h00
  refine ⟨R, oR, cap, ?_, block_lt_of_cell h00, fun i d hi => ?_⟩
  · rw [World.var?_cell hg hvar 0, ← Array.getElem?_toList, hc0, hlen]; rfl
  · obtain ⟨ce, q, _, hc, htr⟩ := hrow i d hi
    refine ⟨ce, k, q, fun j hj => ?_, htr⟩
    have := hc j hj
    rw [Addr.add_lit, Addr.add_lit] at this
    exact this

theorem cheat_cells {w : World} {fuel : Nat} {ce : List Value} {q : List MemPlace} {a : Nat} {l : List UInt8} (h : DataW.trod (fun _ => ()) Tryd.prog w 0 (fun _ => true) false fuel 152 ce = some (.agg [.lit (.int .i64 a), .lit (.string l)], q)) :
    ce[0]? = some (.int .i64 a) ∧ ce[1]? = some (.string ⟨l.toArray⟩) := by
  obtain ⟨xs, n, rfl, hx, hl, hxl, hall⟩ := DataW.trod_struct Tryd.underlying152 h
  have hx3 : xs.map (·.1) = [.lit (.int .i64 a), .lit (.string l)] := by
    have := congrArg Prod.fst hx
    simpa using this.symm
  obtain ⟨x0, x1, rfl⟩ : ∃ x0 x1, xs = [x0, x1] := by
    match xs, hx3 with
    | [x0, x1], _ => exact ⟨x0, x1, rfl⟩
  simp only [List.map_cons, List.map_nil, List.cons.injEq, and_true] at hx3
  obtain ⟨e0, e1⟩ := hx3
  have f0 := hall 0 _ rfl
  have f1 := hall 1 _ rfl
  change DataW.trod _ _ _ _ _ _ _ 3 ((ce.drop 0).take (Tryd.prog.cellsOf 3)) = some x0 at f0
  change DataW.trod _ _ _ _ _ _ _ 9 ((ce.drop 1).take (Tryd.prog.cellsOf 9)) = some x1 at f1
  rw [show Tryd.prog.cellsOf 3 = 1 by kernel_rfl] at f0
  rw [show Tryd.prog.cellsOf 9 = 1 by kernel_rfl] at f1
  constructor
  · obtain ⟨z, hz, hx', _⟩ := DataW.trod_int Tryd.underlying3 f0
    rw [hx'] at e0
    cases e0
    exact at_take1 hz
  · obtain ⟨s, hs, hx', _⟩ := DataW.trod_string Tryd.underlying9 f1
    rw [hx'] at e1
    simp only [DataW.lit.injEq, Lit.string.injEq] at e1
    rw [at_take1 hs, ← e1]

theorem cheats_of {w : World} {n : String} (h : VarReads Tryd.prog w n Go.Pinned.leftcheats) (hn : Tryd.prog.globalNamed n = some 13) : Cheats w.heap.size w := by
  have hlen : (Go.Pinned.cheatRows.map fun x => (DataW.agg [.lit (.int .i64 x.1), .lit (.string x.2)] : DataW Unit)).length = 61 := by kernel_rfl
  have hl2 : Go.Pinned.cheatRows.length = 61 := by rw [List.length_map] at hlen; exact hlen
  obtain ⟨T, oT, cap, h1, h2, h3⟩ := slice_rows (g := 13) (t := 153) (e := 152) (m := 2) hn (by kernel_rfl) Tryd.underlying153 (by kernel_rfl) (by omega) (by rw [hlen]; omega) h
  rw [hlen] at h1
  refine ⟨T, oT, cap, h2, block_lt_of_cell h1, h1, fun k hk => ?_⟩
  obtain ⟨ce, fuel, q, hc, ht⟩ := h3 k (.agg [.lit (.int .i64 (chD k)), .lit (.string (Go.Pinned.cheatRows.getD k (0, [])).2)]) (by
    rw [List.getElem?_map, List.getElem?_eq_getElem (by omega)]
    unfold chD
    rw [List.getD_eq_getElem?_getD, List.getElem?_eq_getElem (by omega)]
    rfl)
  obtain ⟨c0, c1⟩ := cheat_cells ht
  exact ⟨(hc 0 (by omega)).trans c0, (hc 1 (by omega)).trans c1⟩

theorem powtab_of {w : World} {n : String} (h : VarReads Tryd.prog w n Rows.laid_internal_strconv_powtab) (hn : Tryd.prog.globalNamed n = some 8) : PowTab w.heap.size w := by
  obtain ⟨T, oT, cap, h1, h2, h3⟩ := slice_rows (g := 8) (t := 132) (e := 3) (m := 1) hn (by kernel_rfl) Tryd.underlying132 (by kernel_rfl) (by omega) (by decide) h
  refine ⟨T, oT, cap, h2, block_lt_of_cell h1, h1, fun k hk => ?_⟩
  obtain ⟨ce, fuel, q, hc, ht⟩ := h3 k (.lit (.int .i64 (powOf k))) (by
    match k, hk with
    | 0, _ | 1, _ | 2, _ | 3, _ | 4, _ | 5, _ | 6, _ | 7, _ | 8, _ => rfl)
  obtain ⟨z, rfl, hx, _⟩ := DataW.trod_int Tryd.underlying3 ht
  have hz : (powOf k : Int) = z := by simpa using congrArg Prod.fst hx
  rw [hz]
  have := hc 0 (by omega)
  rw [Nat.mul_one, Nat.add_zero] at this
  exact this

set_option maxRecDepth 100000 in
theorem trod_float' {w : World} {fuel : Nat} {ce : List Value} {q : List MemPlace} {b : Nat} (h : DataW.trod (fun _ => ()) Tryd.prog w 0 (fun _ => true) false fuel 28 ce = some (.lit (.float .f64 b), q)) : ce = [.float .f64 b] := by
  cases fuel with
  | zero => simp [DataW.trod] at h
  | succ n =>
    unfold DataW.trod at h
    rw [Tryd.underlying28] at h
    split at h <;> simp_all

theorem f10_of {w : World} {n : String} (h : VarReads Tryd.prog w n Rows.laid_internal_strconv_float64pow10) (hn : Tryd.prog.globalNamed n = some 9) : F10 w := by
  have hd : Rows.laid_internal_strconv_float64pow10 = (.slice (fp10.map fun (b : Nat) => .lit (.float .f64 b)) [] : DataW Unit) := by kernel_rfl
  rw [hd] at h
  have hl : fp10.length = 23 := by kernel_rfl
  have hl2 : (fp10.map fun (b : Nat) => (DataW.lit (.float .f64 b) : DataW Unit)).length = 23 := by rw [List.length_map]; exact hl
  obtain ⟨T, oT, cap, h1, h2, h3⟩ := slice_rows (g := 9) (t := 134) (e := 28) (m := 1) hn (by kernel_rfl) Tryd.underlying134 (by kernel_rfl) (by omega) (by omega) h
  rw [hl2] at h1
  refine ⟨T, oT, cap, h1, h2, fun k hk => ?_⟩
  obtain ⟨ce, fuel, q, hc, ht⟩ := h3 k (.lit (.float .f64 (p10 k))) (by
    rw [List.getElem?_map, List.getElem?_eq_getElem (by omega)]
    unfold p10
    rw [List.getD_eq_getElem?_getD, List.getElem?_eq_getElem (by omega)]
    rfl)
  rw [trod_float' ht] at hc
  have := hc 0 (by omega)
  rw [Nat.mul_one, Nat.add_zero] at this
  exact this

theorem pow10_of {w : World} {n : String} (h : VarReads Tryd.prog w n Go.Pinned.pow10Tab) (hn : Tryd.prog.globalNamed n = some 11) : Pow10 w := by
  have hlen : Go.Pinned.pow10Rows.length = 696 := by kernel_rfl
  obtain ⟨g, t, cs, fuel, p, hg, hty, hvar, hd⟩ := h
  obtain rfl : 11 = g := Option.some.inj (hn.symm.trans hg)
  obtain rfl : 142 = t := Option.some.inj ((show (Tryd.prog.globals[11]?).map (·.type) = some 142 by kernel_rfl).symm.trans hty)
  have hrow : ∀ n, n < 696 → w.cell? ⟨11, n * 2, none⟩ = some (.int .u64 (ptHi n)) ∧ w.cell? ⟨11, n * 2 + 1, none⟩ = some (.int .u64 (ptLo n)) := by
    intro n hn
    obtain ⟨fuel', d, q, hdi, he⟩ := array_elem Tryd.underlying142 hd n hn
    have hd2 : d = .agg ([ptHi n, ptLo n].map fun z => .lit (.int .u64 z)) := by
      rw [List.getElem?_map, List.getElem?_eq_getElem (by omega)] at hdi
      simp only [Option.map_some, Option.some.injEq] at hdi
      rw [← hdi]
      unfold ptHi ptLo
      rw [List.getD_eq_getElem?_getD, List.getElem?_eq_getElem (by omega)]
      rfl
    subst hd2
    have c2 : Tryd.prog.cellsOf 141 = 2 := by kernel_rfl
    rw [c2] at he
    have hcs := ints_of_struct Tryd.underlying141 (fun j f hj => by
      match j, hj with
      | 0, hj => simp at hj; subst hj; exact ⟨Tryd.underlying44, rfl, by kernel_rfl⟩
      | 1, hj => simp at hj; subst hj; exact ⟨Tryd.underlying44, rfl, by kernel_rfl⟩
      | j + 2, hj => simp at hj) (by rw [c2]; rfl) he
    have e0 := congrArg (·[0]?) hcs
    have e1 := congrArg (·[1]?) hcs
    simp only [List.getElem?_take, List.getElem?_drop] at e0 e1
    constructor
    · rw [World.var?_cell hg hvar (n * 2), ← Array.getElem?_toList]
      simpa using e0
    · rw [World.var?_cell hg hvar (n * 2 + 1), ← Array.getElem?_toList]
      simpa using e1
  exact ⟨fun n hn => (hrow n hn).1, fun n hn => (hrow n hn).2⟩

theorem info_of {w : World} {n : String} (h : VarReads Tryd.prog w n Rows.laid_internal_strconv_float64info) (hn : Tryd.prog.globalNamed n = some 4) : Info 4 w.heap.size w := by
  obtain ⟨g, t, cs, fuel, p, hg, hty, hvar, hd⟩ := h
  obtain rfl : 4 = g := Option.some.inj (hn.symm.trans hg)
  obtain rfl : 90 = t := Option.some.inj ((show (Tryd.prog.globals[4]?).map (·.type) = some 90 by kernel_rfl).symm.trans hty)
  obtain ⟨xs, n, rfl, hx, hl, hxl, hall⟩ := DataW.trod_struct Tryd.underlying90 hd
  have hx3 : xs.map (·.1) = [.lit (.int .u64 52), .lit (.int .u64 11), .lit (.int .i64 (-1023))] := by
    have := congrArg Prod.fst hx
    simpa [Rows.laid_internal_strconv_float64info] using this.symm
  obtain ⟨x0, x1, x2, rfl⟩ : ∃ x0 x1 x2, xs = [x0, x1, x2] := by
    match xs, hx3 with
    | [x0, x1, x2], _ => exact ⟨x0, x1, x2, rfl⟩
  simp only [List.map_cons, List.map_nil, List.cons.injEq, and_true] at hx3
  obtain ⟨e0, e1, e2⟩ := hx3
  have f0 := hall 0 _ rfl
  have f1 := hall 1 _ rfl
  have f2 := hall 2 _ rfl
  change DataW.trod _ _ _ _ _ _ _ 58 ((cs.toList.drop 0).take (Tryd.prog.cellsOf 58)) = some x0 at f0
  change DataW.trod _ _ _ _ _ _ _ 58 ((cs.toList.drop 1).take (Tryd.prog.cellsOf 58)) = some x1 at f1
  change DataW.trod _ _ _ _ _ _ _ 3 ((cs.toList.drop 2).take (Tryd.prog.cellsOf 3)) = some x2 at f2
  rw [show Tryd.prog.cellsOf 58 = 1 by kernel_rfl] at f0 f1
  rw [show Tryd.prog.cellsOf 3 = 1 by kernel_rfl] at f2
  have g0 : w.cell? ⟨4, 0, none⟩ = some (.int .u64 52) := by
    obtain ⟨z, hz, hx', _⟩ := DataW.trod_int Tryd.underlying58 f0
    rw [hx'] at e0
    cases e0
    rw [World.var?_cell hg hvar 0, ← Array.getElem?_toList]
    exact at_take1 hz
  have g1 : w.cell? ⟨4, 1, none⟩ = some (.int .u64 11) := by
    obtain ⟨z, hz, hx', _⟩ := DataW.trod_int Tryd.underlying58 f1
    rw [hx'] at e1
    cases e1
    rw [World.var?_cell hg hvar 1, ← Array.getElem?_toList]
    exact at_take1 hz
  have g2 : w.cell? ⟨4, 2, none⟩ = some (.int .i64 (-1023)) := by
    obtain ⟨z, hz, hx', _⟩ := DataW.trod_int Tryd.underlying3 f2
    rw [hx'] at e2
    cases e2
    rw [World.var?_cell hg hvar 2, ← Array.getElem?_toList]
    exact at_take1 hz
  exact ⟨block_lt_of_cell g0, g0, g1, g2⟩

theorem opt_of {w : World} {n : String} (h : VarReads Tryd.prog w n Rows.laid_internal_strconv_optimize) (hn : Tryd.prog.globalNamed n = some 3) : w.cell? ⟨3, 0, none⟩ = some (.bool true) := by
  obtain ⟨g, t, cs, fuel, p, hg, hty, hvar, hd⟩ := h
  obtain rfl : 3 = g := Option.some.inj (hn.symm.trans hg)
  obtain rfl : 4 = t := Option.some.inj ((show (Tryd.prog.globals[3]?).map (·.type) = some 4 by kernel_rfl).symm.trans hty)
  obtain ⟨b, hcs, hx⟩ := DataW.trod_bool Tryd.underlying4 hd
  have hb : true = b := by simpa [Rows.laid_internal_strconv_optimize] using congrArg Prod.fst hx
  rw [World.var?_cell hg hvar 0, ← Array.getElem?_toList, hcs, ← hb]
  rfl

set_option maxRecDepth 100000 in
theorem rangeVar_of {w : World} (h : VarReads Tryd.prog w "strconv.ErrRange" Rows.laid_strconv_ErrRange) : RangeVar w := by
  obtain ⟨g, t, cs, fuel, p, hg, hty, hvar, hd⟩ := h
  obtain rfl : 1 = g := Option.some.inj ((show Tryd.prog.globalNamed "strconv.ErrRange" = some 1 by kernel_rfl).symm.trans hg)
  obtain rfl : 39 = t := Option.some.inj ((show (Tryd.prog.globals[1]?).map (·.type) = some 39 by kernel_rfl).symm.trans hty)
  have hi : ∃ te pe, cs.toList = [.iface te pe] := by
    cases fuel with
    | zero => simp [DataW.trod] at hd
    | succ n =>
      generalize cs.toList = L at hd
      unfold DataW.trod at hd
      rw [Tryd.underlying39] at hd
      split at hd
      all_goals first
        | (exact ⟨_, _, rfl⟩)
        | (exfalso; simp_all [Rows.laid_strconv_ErrRange]; done)
  obtain ⟨te, pe, hc⟩ := hi
  refine ⟨te, pe, ?_⟩
  rw [World.var?_cell hg hvar 0, ← Array.getElem?_toList, hc]
  rfl

end Go.Proofs.Qxb6606071aDoor.Fl
