import Derived.Test.Qxb6615497aGreatDoorP0
import Derived.Test.Qxb6615497aGreatDoorG24
import Derived.Test.Qxb6615497aGreatDoorV5
import Derived.Test.Qxb6615497aGreatDoorV6
import Derived.Lib.LaidU8T
import Derived.Lib.LaidCase
import Derived.Shelf.Vars
/- FnParseRobotsStarTailExtendsStarOnly: the row, lifted; the tied card. -/
namespace Go.Proofs.Qxb6615497aGreatDoor
open Go Go.ChangeShapes Go.WideShapes Go.ChangeAt Go.RowKit
open Go.ChangeMaps (open_string shut_string)

def u8ren5 : Go.Shelf.Ren := ⟨fun n => n, fun | 5 => 5 | 119 => 139 | 138 => 141 | 139 => 142 | n => n, fun | 3 => 4 | 4 => 5 | n => n⟩
theorem u8types5 : U8Types Tryz.prog u8ren5 := ⟨Tryz.underlying5, Tryz.underlying139, Tryz.underlying141, Tryz.underlying142⟩
theorem u8extra5 : U8Extra Tryz.prog u8ren5 := ⟨by kernel_rfl, by kernel_rfl, by kernel_rfl, by kernel_rfl, by kernel_rfl, by kernel_rfl, by kernel_rfl⟩
theorem first_same5 : Rows.laid_unicode_utf8_first = Lib.firstData := by kernel_rfl
theorem accept_same5 : (Rows.laid_unicode_utf8_acceptRanges : DataW Unit) = Lib.acceptData := by kernel_rfl
theorem case_same5 : Rows.laid_unicode_CaseRanges = Lib.caseData := by kernel_rfl
theorem caseExtra5 : CaseExtra Tryz.prog Tryz.lays159_ren := ⟨by kernel_rfl, by kernel_rfl, by kernel_rfl, by kernel_rfl, by kernel_rfl, by kernel_rfl⟩

theorem env5 {W : World} (hsh : W.ShapedOpen Tryz.prog) (hL : laidMetH Tryz.prog Rows.fnParseRobotsStarTailExtendsStarOnlyRow.laid W) : AllTabs W := by
  rw [MakeChecks.laidMetH_plain _ _ _ (by kernel_rfl)] at hL
  have i3 := info_of (Lib.laidMet.reads hL (List.mem_of_getElem? (i := 3) rfl)) (by kernel_rfl)
  have i4 := opt_of (Lib.laidMet.reads hL (List.mem_of_getElem? (i := 4) rfl)) (by kernel_rfl)
  have i5 := powtab_of (Lib.laidMet.reads hL (List.mem_of_getElem? (i := 5) rfl)) (by kernel_rfl)
  have i6 := f10_of (Lib.laidMet.reads hL (List.mem_of_getElem? (i := 6) rfl)) (by kernel_rfl)
  have i10 := rangeVar_of (Lib.laidMet.reads hL (List.mem_of_getElem? (i := 10) rfl))
  have i12 := fold_of (Lib.laidMet.reads hL (List.mem_of_getElem? (i := 12) rfl)) (Lib.laidMet.reads hL (List.mem_of_getElem? (i := 13) rfl))
  have i14 := cheats_of (Lib.laidMet.reads hL (List.mem_of_getElem? (i := 14) rfl)) (by kernel_rfl)
  have i15 := pow10_of (Lib.laidMet.reads hL (List.mem_of_getElem? (i := 15) rfl)) (by kernel_rfl)
  have h3 := Lib.laidMet.reads hL (List.mem_of_getElem? (i := 17) rfl)
  have h4 := Lib.laidMet.reads hL (List.mem_of_getElem? (i := 9) rfl)
  have h5 := Lib.laidMet.reads hL (List.mem_of_getElem? (i := 16) rfl)
  rw [first_same5] at h3
  rw [accept_same5] at h4
  rw [case_same5] at h5
  have hm : ∃ m, W.cell? ⟨6, 0, none⟩ = some (.int .i64 m) := cell_of_shapedOpen_int (t := 3) (zero := #[.int .i64 0]) (k := .i64) hsh (by decide +kernel) (by kernel_rfl) rfl (by kernel_rfl) (by kernel_rfl) Tryz.underlying3
  have h16 : 16 < W.heap.size := by
    obtain ⟨T, oT, cap, _, h, _⟩ := i14.tab
    exact h
  exact ⟨⟨i15, h16, i14, i5, i3, i6, i4⟩, i10, i12, ⟨hm, caseVar_of_reads (show Lays.n274 Tryz.prog Tryz.lays159_ren from { Tryz.lays159 with }) Tryz.underlying151 caseExtra5 h5, utf8Tabs_of_readsT u8types5 u8extra5 h3 h4⟩⟩

set_option maxRecDepth 100000 in
theorem lifted5 (os : Os) (started : os.Started) (H : Type) (enc : TypeId × Value → H) :
    ReturnsInHanded {} Tryz.checked os 5 .any (fun w args => (Rows.fnParseRobotsStarTailExtendsStarOnlySpec.pre enc Tryz.prog Tryz.f5 Rows.fnParseRobotsStarTailExtendsStarOnlyRow.domain false w args ∧ laidMetH Tryz.prog Rows.fnParseRobotsStarTailExtendsStarOnlyRow.laid w) ∧ sizedMet enc Tryz.prog Tryz.f5 (OpenSpec.ofChange Rows.fnParseRobotsStarTailExtendsStarOnlySpec) false w args)
      (Rows.fnParseRobotsStarTailExtendsStarOnlySpec.post enc Tryz.prog Tryz.f5 false true false false) := by
  refine handed_shaped_and (C := Tryz.checked) (X := fun w _ => laidMetH Tryz.prog Rows.fnParseRobotsStarTailExtendsStarOnlyRow.laid w) (fun _ _ _ hh h => h.of_heap hh) own started (by kernel_rfl) Tryz.func5
    (ChangeSpec.witness_shaped (enc := enc) (C := Tryz.checked) (os := os) (X := fun w _ => laidMetH Tryz.prog Rows.fnParseRobotsStarTailExtendsStarOnlyRow.laid w) false (World.laidAll Tryz.prog os Rows.fnParseRobotsStarTailExtendsStarOnlyRow.laid) #[.slice none 0 0, .string ⟨#[]⟩] 8 (World.laidAll_os _ _ _)
      (World.shaped_of_ZipB (by kernel_rfl) (by kernel_rfl)) (by kernel_rfl) (by kernel_rfl) (by kernel_rfl)
      (by rw [MakeChecks.laidMetH_plain _ _ _ (by kernel_rfl)]; exact laidMet_laidAll _ (by kernel_rfl) (by kernel_rfl))) ?_
  intro W base args ds gs before hval0 hW hsh hL
  have hval : ∀ (j : Nat) t v, Tryz.f5.params[j]? = some t → args[j]? = some v → Value.okWide Tryz.prog W .any base t v := hval0
  have hW' := hW
  obtain ⟨p, q, hA0, hV, rfl, _, _⟩ := hW
  have hA : DataW.TrodAll enc Tryz.prog W 0 (fun _ => true) true Tryz.f5.params.toList args.toList ds p := hA0
  rw [Tryz.params5] at hA hval
  obtain ⟨v0, v1, d0, d1, p0, p1, rfl, rfl, rfl, h0, h1⟩ := trodAll_two hA
  obtain ⟨rfl, rfl⟩ := trodVars_none hV
  have hT := env5 hsh hL
  obtain ⟨l, hArg, hll, hshut⟩ := open_body (hval 0 22 v0 rfl rfl) h0
  obtain ⟨s, rfl, rfl, rfl, ws⟩ := open_string Tryz.underlying9 (hval 1 9 v1 rfl rfl) h1
  refine (law5_walk v0 l s W hArg (by unfold maxLen at hll; omega) (by unfold maxLen at ws; omega) hT).mono fun e W' ⟨he, hb⟩ => ?_
  subst he
  obtain ⟨pa, hpa⟩ := hshut W' hb
  refine ⟨_, rfl, _, _, _, [], pa ++ [], [], hW', ?_, ?_, ?_, hb.frame _, fun h => by cases h⟩
  · exact trodAll_mk1 (shut_bool Tryz.underlying4 _)
  · exact trodAll_mk2 hpa (shut_string Tryz.underlying9 ws)
  · rfl

theorem row5 : Rows.FnParseRobotsStarTailExtendsStarOnlySaid :=
  OpenClaim.holds_of_wide 5 Tryz.f5 rfl rfl rfl rfl rfl rfl rfl ⟨rfl, rfl, rfl, rfl, rfl⟩ rfl rfl rfl rfl rfl (by kernel_rfl) Tryz.func5 (by kernel_rfl)
    (of_decide_eq_true (by kernel_rfl)) (by unfold Func.isWrapper; rw [if_neg (of_decide_eq_false (by kernel_rfl))]; exact ⟨rfl, rfl⟩)
    (fun os started H enc _ => lifted5 os started H enc)

theorem starTail_card : Rows.FnParseRobotsStarTailExtendsStarOnlyCardSaid :=
  Claim7.holds_tied_plain_at .later [] [.data, .data, .widerDeep, .widerDeep, .data, .data, .data, .data, .data, .data, .sentinel, .sentinel, .data, .data, .pinned, .pinned, .pinned, .pinned] true (true, "f6467699edcd6a2df80af43aa4eb6b0c8eaad8aacf6ec2647562aafd4a9f2e53") true row5 (fun _ h => by cases h) (by kernel_rfl) (fun _ h => by cases h) fnParseRobotsStarTailExtendsStarOnly_row_tie rfl ⟨rfl, rfl⟩ (by kernel_rfl) rfl
    (fun f fn hf hfn => by
      obtain rfl : f = 5 := Option.some.inj ((show Tryz.prog.funcNamed Rows.fnParseRobotsStarTailExtendsStarOnlyRow.func = some 5 by kernel_rfl).symm.trans hf) |>.symm
      obtain rfl : fn = Tryz.f5 := (Option.some.inj (Tryz.func5.symm.trans hfn)).symm
      exact ⟨by kernel_rfl, fun j t ht => by
        rw [Tryz.params5] at ht
        have hm : t ∈ [22, 9] := by simpa using Array.mem_of_getElem? ht
        have hall : ([22, 9].all fun u => !Tryz.prog.wantsStandIn u) = true := by kernel_rfl
        exact (show Tryz.prog.wantsStandIn t = false by simpa using List.all_eq_true.1 hall t hm)⟩)
    (by kernel_rfl)
end Go.Proofs.Qxb6615497aGreatDoor
