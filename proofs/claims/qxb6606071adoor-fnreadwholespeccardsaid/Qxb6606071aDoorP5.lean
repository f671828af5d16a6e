import Derived.Test.Qxb6606071aDoorP0
import Derived.Test.Qxb6606071aDoorL5
import Derived.Test.Qxb6606071aDoorV5
/- FnReadWholeSpec: the row, lifted; the tied card. -/
namespace Go.Proofs.Qxb6606071aDoor
open Go Go.ChangeShapes Go.WideShapes Go.ChangeAt Go.RowKit
open Go.ChangeMaps (open_string shut_string)

theorem env5 {W : World} (hL : laidMetH Tryd.prog Rows.fnReadWholeSpecRow.laid W) : Fl.FTabs W ∧ Fl.RangeVar W := by
  rw [MakeChecks.laidMetH_plain _ _ _ (by kernel_rfl)] at hL
  have i3 := Fl.info_of (Lib.laidMet.reads hL (List.mem_of_getElem? (i := 3) rfl)) (by kernel_rfl)
  have i4 := Fl.opt_of (Lib.laidMet.reads hL (List.mem_of_getElem? (i := 4) rfl)) (by kernel_rfl)
  have i5 := Fl.powtab_of (Lib.laidMet.reads hL (List.mem_of_getElem? (i := 5) rfl)) (by kernel_rfl)
  have i6 := Fl.f10_of (Lib.laidMet.reads hL (List.mem_of_getElem? (i := 6) rfl)) (by kernel_rfl)
  have i10 := Fl.rangeVar_of (Lib.laidMet.reads hL (List.mem_of_getElem? (i := 10) rfl))
  have i12 := Fl.cheats_of (Lib.laidMet.reads hL (List.mem_of_getElem? (i := 12) rfl)) (by kernel_rfl)
  have i13 := Fl.pow10_of (Lib.laidMet.reads hL (List.mem_of_getElem? (i := 13) rfl)) (by kernel_rfl)
  have hbig : 13 < W.heap.size := by
    obtain ⟨T, oT, cap, _, h, _⟩ := i12.tab
    exact h
  exact ⟨⟨i13, hbig, i12, i5, i3, i6, i4⟩, i10⟩

set_option maxRecDepth 100000 in
theorem lifted5 (os : Os) (started : os.Started) (H : Type) (enc : TypeId × Value → H) :
    ReturnsInHanded {} Tryd.checked os 5 .any (fun w args => (Rows.fnReadWholeSpecSpec.pre enc Tryd.prog Tryd.f5 Rows.fnReadWholeSpecRow.domain false w args ∧ laidMetH Tryd.prog Rows.fnReadWholeSpecRow.laid w) ∧ sizedMet enc Tryd.prog Tryd.f5 (OpenSpec.ofChange Rows.fnReadWholeSpecSpec) false w args)
      (Rows.fnReadWholeSpecSpec.post enc Tryd.prog Tryd.f5 false true false false) := by
  refine handed_shaped_and (C := Tryd.checked) (X := fun w _ => laidMetH Tryd.prog Rows.fnReadWholeSpecRow.laid w) (fun _ _ _ hh h => h.of_heap hh) own started (by kernel_rfl) Tryd.func5
    (ChangeSpec.witness_shaped (enc := enc) (C := Tryd.checked) (os := os) (X := fun w _ => laidMetH Tryd.prog Rows.fnReadWholeSpecRow.laid w) false (World.laidAll Tryd.prog os Rows.fnReadWholeSpecRow.laid) #[.string ⟨#[]⟩] 8 (World.laidAll_os _ _ _)
      (World.shaped_of_ZipB (by kernel_rfl) (by kernel_rfl)) (by kernel_rfl) (by kernel_rfl) (by kernel_rfl)
      (by rw [MakeChecks.laidMetH_plain _ _ _ (by kernel_rfl)]; exact laidMet_laidAll _ (by kernel_rfl) (by kernel_rfl))) ?_
  intro W base args ds gs before hval0 hW _ hL
  have hval : ∀ (j : Nat) t v, Tryd.f5.params[j]? = some t → args[j]? = some v → Value.okWide Tryd.prog W .any base t v := hval0
  have hW' := hW
  obtain ⟨p, q, hA0, hV, rfl, _, _⟩ := hW
  have hA : DataW.TrodAll enc Tryd.prog W 0 (fun _ => true) true Tryd.f5.params.toList args.toList ds p := hA0
  rw [Tryd.params5] at hA hval
  obtain ⟨v0, d0, rfl, rfl, h0⟩ := trodAll_one hA
  obtain ⟨rfl, rfl⟩ := trodVars_none hV
  obtain ⟨s, rfl, rfl, rfl, ws⟩ := open_string Tryd.underlying9 (hval 0 9 v0 rfl rfl) h0
  obtain ⟨hT, hR⟩ := env5 hL
  refine (Fl.law5_any s W ws hT hR).mono fun e W' ⟨he, hb⟩ => ?_
  subst he
  refine ⟨_, rfl, _, _, _, [], [], [], hW', ?_, ?_, ?_, hb.frame _, fun h => by cases h⟩
  · exact trodAll_mk1 (shut_bool Tryd.underlying4 _)
  · exact trodAll_mk1 (shut_string Tryd.underlying9 ws)
  · rfl

theorem row5 : Rows.FnReadWholeSpecSaid :=
  OpenClaim.holds_of_wide 5 Tryd.f5 rfl rfl rfl rfl rfl rfl rfl ⟨rfl, rfl, rfl, rfl, rfl⟩ rfl rfl rfl rfl rfl (by kernel_rfl) Tryd.func5 (by kernel_rfl)
    (of_decide_eq_true (by kernel_rfl)) (by unfold Func.isWrapper; rw [if_neg (of_decide_eq_false (by kernel_rfl))]; exact ⟨rfl, rfl⟩)
    (fun os started H enc _ => lifted5 os started H enc)

theorem readWhole_card : Rows.FnReadWholeSpecCardSaid :=
  Claim7.holds_tied_plain_at .later [] [.data, .data, .widerDeep, .widerDeep, .data, .data, .data, .data, .data, .data, .sentinel, .sentinel, .pinned, .pinned, .pinned] true (true, "96f561fe51ed450b71c5836931b18dd19c4b04872f993ef6e22f625e72ac594e") true row5 (fun _ h => by cases h) (by kernel_rfl) (fun _ h => by cases h) fnReadWholeSpec_row_tie rfl ⟨rfl, rfl⟩ (by kernel_rfl) rfl
    (fun f fn hf hfn => by
      obtain rfl : f = 5 := Option.some.inj ((show Tryd.prog.funcNamed Rows.fnReadWholeSpecRow.func = some 5 by kernel_rfl).symm.trans hf) |>.symm
      obtain rfl : fn = Tryd.f5 := (Option.some.inj (Tryd.func5.symm.trans hfn)).symm
      exact ⟨by kernel_rfl, fun j t ht => by
        rw [Tryd.params5] at ht
        have hm : t ∈ [9] := by simpa using Array.mem_of_getElem? ht
        have hall : ([9].all fun u => !Tryd.prog.wantsStandIn u) = true := by kernel_rfl
        exact (show Tryd.prog.wantsStandIn t = false by simpa using List.all_eq_true.1 hall t hm)⟩)
    (by kernel_rfl)
end Go.Proofs.Qxb6606071aDoor
