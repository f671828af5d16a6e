import Derived.Test.Qxb6614997aFmtP0
import Derived.Test.Qxb6614997aFmtL2
import Derived.Carry
/- FnRequestedPageOffsetPlainOrEncoded: the row, lifted; the told and tied card. -/
namespace Go.Proofs.Qxb6614997aFmt
open Go Go.ChangeShapes Go.WideShapes Go.ChangeAt Go.RowKit
open Go.ChangeMaps (open_string shut_string)

set_option maxRecDepth 100000 in
theorem lifted2 (os : Os) (started : os.Started) (H : Type) (enc : TypeId × Value → H) :
    ReturnsInTold none {} Tryf.checked os 4 .any Input.okWide ((OpenSpec.ofChange Rows.fnRequestedPageOffsetPlainOrEncodedSpec).preRow enc Tryf.prog Tryf.f4 Rows.fnRequestedPageOffsetPlainOrEncodedRow.domain false Rows.fnRequestedPageOffsetPlainOrEncodedRow.laid)
      (fun F => ((OpenSpec.ofChange Rows.fnRequestedPageOffsetPlainOrEncodedSpec).at F).post enc Tryf.prog Tryf.f4 false true false false) (aloneAtReturn Tryf.prog) nothingAlways := by
  refine told_of_calls (C := Tryf.checked) (by kernel_rfl) own started (by kernel_rfl) Tryf.func4
    (fun F => ⟨World.laidAll Tryf.prog os Rows.fnRequestedPageOffsetPlainOrEncodedRow.laid, F.over fun _ _ => 0, ⟨#[], #[.string ⟨#[]⟩, .string ⟨#[]⟩], []⟩, World.laidAll_os _ _ _,
      World.shaped_of_ZipB (by kernel_rfl) (by kernel_rfl), rfl, (Input.okWide_of_okWideB (by kernel_rfl)).2,
      OpenSpec.preRow_of_B rfl 8 (by kernel_rfl) (by kernel_rfl) (by rw [MakeChecks.laidMetH_plain _ _ _ (by kernel_rfl)]; exact laidMet_laidAll _ (by kernel_rfl) (by kernel_rfl)), by
        simp only [Assume.holds]
        exact ⟨by simp, by simp, by simp, by simp, by simp⟩, F.over_answers _⟩) ?_
  intro F W base args ds gs before hF hsh hL hval0 hW
  have hval : ∀ (j : Nat) t v, Tryf.f4.params[j]? = some t → args[j]? = some v → Value.okWide Tryf.prog W .any base t v := hval0
  have hW' := hW
  obtain ⟨p, q, hA0, hV, rfl, _, _⟩ := hW
  have hA : DataW.TrodAll enc Tryf.prog W 0 (fun _ => true) true Tryf.f4.params.toList args.toList ds p := hA0
  rw [Tryf.params4] at hA hval
  obtain ⟨v0, v1, d0, d1, p0, p1, rfl, rfl, rfl, h0, h1⟩ := trodAll_two hA
  obtain ⟨rfl, rfl⟩ := trodVars_none hV
  obtain ⟨s, rfl, rfl, rfl, ws⟩ := open_string Tryf.underlying9 (hval 0 9 v0 rfl rfl) h0
  obtain ⟨x, rfl, rfl, rfl, wx⟩ := open_string Tryf.underlying9 (hval 1 9 v1 rfl rfl) h1
  refine (law2_any F s x W hF ws wx (env_of hsh hL)).mono fun e W' ⟨he, hb⟩ => ?_
  subst he
  refine ⟨_, rfl, _, _, _, [], [], [], hW', ?_, ?_, ?_, hb.frame _, fun h => by cases h⟩
  · exact trodAll_mk1 (shut_bool Tryf.underlying4 _)
  · exact trodAll_mk2 (shut_string Tryf.underlying9 ws) (shut_string Tryf.underlying9 wx)
  · rfl

theorem offsetPlainOrEncoded_told : Rows.FnRequestedPageOffsetPlainOrEncodedToldSaid :=
  Claim7.holds_of_told_tied_any_at .later 4 Tryf.f4 "fmt.errorf" [] [] _ _ _ _ _ (by kernel_rfl) rfl rfl rfl Tryf.laidOut (by kernel_rfl) rfl ⟨rfl, rfl, rfl, rfl, rfl, rfl, rfl⟩ rfl rfl (by kernel_rfl) (by kernel_rfl) Tryf.func4 (by kernel_rfl)
    (of_decide_eq_true (by kernel_rfl)) (by unfold Func.isWrapper; rw [if_neg (of_decide_eq_false (by kernel_rfl))]; exact ⟨rfl, rfl⟩) Tryf.stops.symm rfl Tryf.stopKnobs.symm (by kernel_rfl)
    (by kernel_rfl) (by kernel_rfl) (by kernel_rfl) (by kernel_rfl) (by kernel_rfl) (by kernel_rfl) (by kernel_rfl) (by kernel_rfl) (by kernel_rfl) rfl (by kernel_rfl) rfl rfl
    rfl rfl
    rfl (by kernel_rfl) (by kernel_rfl) (by kernel_rfl) (by decide) (by kernel_rfl) fnRequestedPageOffsetPlainOrEncoded_row_tie
    (OpenClaim.moreEntering_of (by kernel_rfl) (by kernel_rfl) (by kernel_rfl) (by kernel_rfl) (by kernel_rfl) (by kernel_rfl) (by kernel_rfl) (by kernel_rfl) (by kernel_rfl) (by kernel_rfl))
    ⟨_, WideRow.started_initial, Tryf.quiet _⟩
    (fun os started _ H enc _ => lifted2 os started H enc)
end Go.Proofs.Qxb6614997aFmt
