import Derived.Test.Qxb6605421aDoorP0
import Derived.Test.Qxb6605421aDoorL5
/- FnListedPathReadsChangeRecord: the row, lifted; the tied card. -/
namespace Go.Proofs.Qxb6605421aDoor
open Go Go.ChangeShapes Go.WideShapes Go.ChangeAt Go.RowKit
open Go.ChangeMaps (open_string shut_string)

set_option maxRecDepth 100000 in
theorem lifted5 (os : Os) (started : os.Started) (H : Type) (enc : TypeId × Value → H) :
    ReturnsInHanded {} Tryd.checked os 5 .any (fun w args => (Rows.fnListedPathReadsChangeRecordSpec.pre enc Tryd.prog Tryd.f5 Rows.fnListedPathReadsChangeRecordRow.domain false w args ∧ laidMetH Tryd.prog Rows.fnListedPathReadsChangeRecordRow.laid w) ∧ sizedMet enc Tryd.prog Tryd.f5 (OpenSpec.ofChange Rows.fnListedPathReadsChangeRecordSpec) false w args)
      (Rows.fnListedPathReadsChangeRecordSpec.post enc Tryd.prog Tryd.f5 false true false false) := by
  refine handed_shaped_and (C := Tryd.checked) (X := fun w _ => laidMetH Tryd.prog Rows.fnListedPathReadsChangeRecordRow.laid w) (fun _ _ _ hh h => h.of_heap hh) own started (by kernel_rfl) Tryd.func5
    (ChangeSpec.witness_shaped (enc := enc) (C := Tryd.checked) (os := os) (X := fun w _ => laidMetH Tryd.prog Rows.fnListedPathReadsChangeRecordRow.laid w) false (World.laidAll Tryd.prog os Rows.fnListedPathReadsChangeRecordRow.laid) #[.bool false, .string ⟨#[]⟩, .string ⟨#[]⟩] 8 (World.laidAll_os _ _ _)
      (World.shaped_of_ZipB (by kernel_rfl) (by kernel_rfl)) (by kernel_rfl) (by kernel_rfl) (by kernel_rfl)
      (by rw [MakeChecks.laidMetH_plain _ _ _ (by kernel_rfl)]; exact laidMet_laidAll _ (by kernel_rfl) (by kernel_rfl))) ?_
  intro W base args ds gs before hval0 hW hsh _
  have hval : ∀ (j : Nat) t v, Tryd.f5.params[j]? = some t → args[j]? = some v → Value.okWide Tryd.prog W .any base t v := hval0
  have hW' := hW
  obtain ⟨p, q, hA0, hV, rfl, _, _⟩ := hW
  have hA : DataW.TrodAll enc Tryd.prog W 0 (fun _ => true) true Tryd.f5.params.toList args.toList ds p := hA0
  rw [Tryd.params5] at hA hval
  obtain ⟨v0, v1, v2, d0, d1, d2, p0, p1, p2, rfl, rfl, rfl, h0, h1, h2⟩ := trodAll_three hA
  obtain ⟨rfl, rfl⟩ := trodVars_none hV
  obtain ⟨b, rfl, rfl, rfl⟩ := open_bool Tryd.underlying4 (hval 0 4 v0 rfl rfl) h0
  obtain ⟨s, rfl, rfl, rfl, ws⟩ := open_string Tryd.underlying9 (hval 1 9 v1 rfl rfl) h1
  obtain ⟨x, rfl, rfl, rfl, wx⟩ := open_string Tryd.underlying9 (hval 2 9 v2 rfl rfl) h2
  obtain ⟨m, hm⟩ := maxLen_cell hsh
  refine (law5_any b s x m W hm ws wx).mono fun e W' ⟨he, hb⟩ => ?_
  subst he
  refine ⟨_, rfl, _, _, _, [], [], [], hW', ?_, ?_, ?_, hb.frame _, fun h => by cases h⟩
  · exact trodAll_mk1 (shut_bool Tryd.underlying4 _)
  · exact trodAll_mk3 (shut_bool Tryd.underlying4 _) (shut_string Tryd.underlying9 ws) (shut_string Tryd.underlying9 wx)
  · rfl

theorem row5 : Rows.FnListedPathReadsChangeRecordSaid :=
  OpenClaim.holds_of_wide 5 Tryd.f5 rfl rfl rfl rfl rfl rfl rfl ⟨rfl, rfl, rfl, rfl, rfl⟩ rfl rfl rfl rfl rfl (by kernel_rfl) Tryd.func5 (by kernel_rfl)
    (of_decide_eq_true (by kernel_rfl)) (by unfold Func.isWrapper; rw [if_neg (of_decide_eq_false (by kernel_rfl))]; exact ⟨rfl, rfl⟩)
    (fun os started H enc _ => lifted5 os started H enc)

theorem changeRecord_card : Rows.FnListedPathReadsChangeRecordCardSaid :=
  Claim7.holds_tied_plain_at .later [] [.data, .pinned] true (true, "0cca092ec9748da96e8eff1462c6cb777138e505fdaaf4b6d75e5b0d52dc7616") true row5 (fun _ h => by cases h) (by kernel_rfl) (fun _ h => by cases h) fnListedPathReadsChangeRecord_row_tie rfl ⟨rfl, rfl⟩ (by kernel_rfl) rfl
    (fun f fn hf hfn => by
      obtain rfl : f = 5 := Option.some.inj ((show Tryd.prog.funcNamed Rows.fnListedPathReadsChangeRecordRow.func = some 5 by kernel_rfl).symm.trans hf) |>.symm
      obtain rfl : fn = Tryd.f5 := (Option.some.inj (Tryd.func5.symm.trans hfn)).symm
      exact ⟨by kernel_rfl, fun j t ht => by
        rw [Tryd.params5] at ht
        have hm : t ∈ [4, 9, 9] := by simpa using Array.mem_of_getElem? ht
        have hall : ([4, 9, 9].all fun u => !Tryd.prog.wantsStandIn u) = true := by kernel_rfl
        exact (show Tryd.prog.wantsStandIn t = false by simpa using List.all_eq_true.1 hall t hm)⟩)
    (by kernel_rfl)
end Go.Proofs.Qxb6605421aDoor
