import Derived.Test.Qxb6615497aGreatDoorP0
import Derived.Test.Qxb6615497aGreatDoorL3
import Derived.Lib.LaidU8T
import Derived.Shelf.Vars
/- FnIsLineEndSplitsRobotsLines: the row, lifted; the tied card. -/
namespace Go.Proofs.Qxb6615497aGreatDoor
open Go Go.ChangeShapes Go.WideShapes Go.ChangeAt Go.RowKit

def u8ren : Go.Shelf.Ren := ⟨fun n => n, fun | 5 => 5 | 119 => 139 | 138 => 141 | 139 => 142 | n => n, fun | 3 => 4 | 4 => 5 | n => n⟩
theorem u8types : U8Types Tryz.prog u8ren := ⟨Tryz.underlying5, Tryz.underlying139, Tryz.underlying141, Tryz.underlying142⟩
theorem u8extra : U8Extra Tryz.prog u8ren := ⟨by kernel_rfl, by kernel_rfl, by kernel_rfl, by kernel_rfl, by kernel_rfl, by kernel_rfl, by kernel_rfl⟩
theorem first_same : Rows.laid_unicode_utf8_first = Lib.firstData := by kernel_rfl
theorem accept_same : (Rows.laid_unicode_utf8_acceptRanges : DataW Unit) = Lib.acceptData := by kernel_rfl

theorem env3 {W : World} (hsh : W.ShapedOpen Tryz.prog) (hL : laidMetH Tryz.prog Rows.fnIsLineEndSplitsRobotsLinesRow.laid W) :
    Lib.Utf8Tabs 4 5 W ∧ ∃ m, W.cell? ⟨6, 0, none⟩ = some (.int .i64 m) := by
  rw [MakeChecks.laidMetH_plain _ _ _ (by kernel_rfl)] at hL
  refine ⟨?_, ?_⟩
  · have h3 := Lib.laidMet.reads hL (List.mem_of_getElem? (i := 17) rfl)
    have h4 := Lib.laidMet.reads hL (List.mem_of_getElem? (i := 9) rfl)
    rw [first_same] at h3
    rw [accept_same] at h4
    exact utf8Tabs_of_readsT u8types u8extra h3 h4
  · exact cell_of_shapedOpen_int (t := 3) (zero := #[.int .i64 0]) (k := .i64) hsh (by decide +kernel) (by kernel_rfl) rfl (by kernel_rfl) (by kernel_rfl) Tryz.underlying3

set_option maxRecDepth 100000 in
theorem lifted3 (os : Os) (started : os.Started) (H : Type) (enc : TypeId × Value → H) :
    ReturnsInHanded {} Tryz.checked os 3 .any (fun w args => (Rows.fnIsLineEndSplitsRobotsLinesSpec.pre enc Tryz.prog Tryz.f3 Rows.fnIsLineEndSplitsRobotsLinesRow.domain false w args ∧ laidMetH Tryz.prog Rows.fnIsLineEndSplitsRobotsLinesRow.laid w) ∧ sizedMet enc Tryz.prog Tryz.f3 (OpenSpec.ofChange Rows.fnIsLineEndSplitsRobotsLinesSpec) false w args)
      (Rows.fnIsLineEndSplitsRobotsLinesSpec.post enc Tryz.prog Tryz.f3 false true false false) := by
  refine handed_shaped_and (C := Tryz.checked) (X := fun w _ => laidMetH Tryz.prog Rows.fnIsLineEndSplitsRobotsLinesRow.laid w) (fun _ _ _ hh h => h.of_heap hh) own started (by kernel_rfl) Tryz.func3
    (ChangeSpec.witness_shaped (enc := enc) (C := Tryz.checked) (os := os) (X := fun w _ => laidMetH Tryz.prog Rows.fnIsLineEndSplitsRobotsLinesRow.laid w) false (World.laidAll Tryz.prog os Rows.fnIsLineEndSplitsRobotsLinesRow.laid) #[.int .i32 0] 8 (World.laidAll_os _ _ _)
      (World.shaped_of_ZipB (by kernel_rfl) (by kernel_rfl)) (by kernel_rfl) (by kernel_rfl) (by kernel_rfl)
      (by rw [MakeChecks.laidMetH_plain _ _ _ (by kernel_rfl)]; exact laidMet_laidAll _ (by kernel_rfl) (by kernel_rfl))) ?_
  intro W base args ds gs before hval0 hW hsh hL
  have hval : ∀ (j : Nat) t v, Tryz.f3.params[j]? = some t → args[j]? = some v → Value.okWide Tryz.prog W .any base t v := hval0
  have hW' := hW
  obtain ⟨p, q, hA0, hV, rfl, _, _⟩ := hW
  have hA : DataW.TrodAll enc Tryz.prog W 0 (fun _ => true) true Tryz.f3.params.toList args.toList ds p := hA0
  rw [Tryz.params3] at hA hval
  obtain ⟨v0, d0, rfl, rfl, h0⟩ := trodAll_one hA
  obtain ⟨rfl, rfl⟩ := trodVars_none hV
  obtain ⟨hT, hm⟩ := env3 hsh hL
  obtain ⟨r, rfl, rfl, rfl, wr⟩ := open_int Tryz.underlying21 (hval 0 21 v0 rfl rfl) h0
  refine (law3_any r W hT hm).mono fun e W' ⟨he, hb⟩ => ?_
  subst he
  refine ⟨_, rfl, _, _, _, [], [], [], hW', ?_, ?_, ?_, hb.frame _, fun h => by cases h⟩
  · exact trodAll_mk1 (shut_bool Tryz.underlying4 _)
  · exact trodAll_mk1 (shut_int Tryz.underlying21 wr)
  · rfl

theorem row3 : Rows.FnIsLineEndSplitsRobotsLinesSaid :=
  OpenClaim.holds_of_wide 3 Tryz.f3 rfl rfl rfl rfl rfl rfl rfl ⟨rfl, rfl, rfl, rfl, rfl⟩ rfl rfl rfl rfl rfl (by kernel_rfl) Tryz.func3 (by kernel_rfl)
    (of_decide_eq_true (by kernel_rfl)) (by unfold Func.isWrapper; rw [if_neg (of_decide_eq_false (by kernel_rfl))]; exact ⟨rfl, rfl⟩)
    (fun os started H enc _ => lifted3 os started H enc)

theorem isLineEndSplits_card : Rows.FnIsLineEndSplitsRobotsLinesCardSaid :=
  Claim7.holds_tied_plain_at .later [] [.data, .data, .widerDeep, .widerDeep, .data, .data, .data, .data, .data, .data, .sentinel, .sentinel, .data, .data, .pinned, .pinned, .pinned, .pinned] true (true, "f6467699edcd6a2df80af43aa4eb6b0c8eaad8aacf6ec2647562aafd4a9f2e53") true row3 (fun _ h => by cases h) (by kernel_rfl) (fun _ h => by cases h) fnIsLineEndSplitsRobotsLines_row_tie rfl ⟨rfl, rfl⟩ (by kernel_rfl) rfl
    (fun f fn hf hfn => by
      obtain rfl : f = 3 := Option.some.inj ((show Tryz.prog.funcNamed Rows.fnIsLineEndSplitsRobotsLinesRow.func = some 3 by kernel_rfl).symm.trans hf) |>.symm
      obtain rfl : fn = Tryz.f3 := (Option.some.inj (Tryz.func3.symm.trans hfn)).symm
      exact ⟨by kernel_rfl, fun j t ht => by
        rw [Tryz.params3] at ht
        have hm : t ∈ [21] := by simpa using Array.mem_of_getElem? ht
        have hall : ([21].all fun u => !Tryz.prog.wantsStandIn u) = true := by kernel_rfl
        exact (show Tryz.prog.wantsStandIn t = false by simpa using List.all_eq_true.1 hall t hm)⟩)
    (by kernel_rfl)
end Go.Proofs.Qxb6615497aGreatDoor
