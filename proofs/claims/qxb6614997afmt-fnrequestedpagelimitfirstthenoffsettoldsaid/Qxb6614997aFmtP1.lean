import Derived.Test.Qxb6614997aFmtP0
import Derived.Test.Qxb6614997aFmtL1
import Derived.Carry
/- FnRequestedPageLimitFirstThenOffset: the row, lifted; the told and tied card. -/
namespace Go.Proofs.Qxb6614997aFmt
open Go Go.ChangeShapes Go.WideShapes Go.ChangeAt Go.RowKit
open Go.ChangeMaps (open_string shut_string)

theorem wf_i64 {x : Int} (h : (Lit.int .i64 x).wf = true) : -9223372036854775808 ≤ x ∧ x ≤ 9223372036854775807 := by
  have e1 : IntKind.i64.min = -9223372036854775808 := rfl
  have e2 : IntKind.i64.max = 9223372036854775807 := rfl
  simp [Lit.wf, e1, e2] at h
  exact h

set_option maxRecDepth 100000 in
theorem lifted1 (os : Os) (started : os.Started) (H : Type) (enc : TypeId × Value → H) :
    ReturnsInTold none {} Tryf.checked os 3 .any Input.okWide ((OpenSpec.ofChange Rows.fnRequestedPageLimitFirstThenOffsetSpec).preRow enc Tryf.prog Tryf.f3 Rows.fnRequestedPageLimitFirstThenOffsetRow.domain false Rows.fnRequestedPageLimitFirstThenOffsetRow.laid)
      (fun F => ((OpenSpec.ofChange Rows.fnRequestedPageLimitFirstThenOffsetSpec).at F).post enc Tryf.prog Tryf.f3 false true false false) (aloneAtReturn Tryf.prog) nothingAlways := by
  refine told_of_calls (C := Tryf.checked) (by kernel_rfl) own started (by kernel_rfl) Tryf.func3
    (fun F => ⟨World.laidAll Tryf.prog os Rows.fnRequestedPageLimitFirstThenOffsetRow.laid, F.over fun _ _ => 0, ⟨#[], #[.string ⟨#[]⟩, .int .i64 0, .int .i64 0, .int .i64 0], []⟩, World.laidAll_os _ _ _,
      World.shaped_of_ZipB (by kernel_rfl) (by kernel_rfl), rfl, (Input.okWide_of_okWideB (by kernel_rfl)).2,
      OpenSpec.preRow_of_B rfl 8 (by kernel_rfl) (by kernel_rfl) (by rw [MakeChecks.laidMetH_plain _ _ _ (by kernel_rfl)]; exact laidMet_laidAll _ (by kernel_rfl) (by kernel_rfl)), by
        simp only [Assume.holds]
        exact ⟨by simp, by simp, by simp, by simp, by simp⟩, F.over_answers _⟩) ?_
  intro F W base args ds gs before hF hsh hL hval0 hW
  have hval : ∀ (j : Nat) t v, Tryf.f3.params[j]? = some t → args[j]? = some v → Value.okWide Tryf.prog W .any base t v := hval0
  have hW' := hW
  obtain ⟨p, q, hA0, hV, rfl, _, _⟩ := hW
  have hA : DataW.TrodAll enc Tryf.prog W 0 (fun _ => true) true Tryf.f3.params.toList args.toList ds p := hA0
  rw [Tryf.params3] at hA hval
  obtain ⟨v0, v1, v2, v3, d0, d1, d2, d3, p0, p1, p2, p3, rfl, rfl, rfl, h0, h1, h2, h3⟩ := trodAll_four hA
  obtain ⟨rfl, rfl⟩ := trodVars_none hV
  obtain ⟨s, rfl, rfl, rfl, ws⟩ := open_string Tryf.underlying9 (hval 0 9 v0 rfl rfl) h0
  obtain ⟨m, rfl, rfl, rfl, wm⟩ := open_int Tryf.underlying3 (hval 1 3 v1 rfl rfl) h1
  obtain ⟨L, rfl, rfl, rfl, wL⟩ := open_int Tryf.underlying3 (hval 2 3 v2 rfl rfl) h2
  obtain ⟨N, rfl, rfl, rfl, wN⟩ := open_int Tryf.underlying3 (hval 3 3 v3 rfl rfl) h3
  have bL := wf_i64 wL
  have bN := wf_i64 wN
  refine (law1_any F s m L N W hF ws (env_of hsh hL) bL.1 bL.2 bN.1 bN.2).mono fun e W' ⟨he, hb⟩ => ?_
  subst he
  refine ⟨_, rfl, _, _, _, [], [], [], hW', ?_, ?_, ?_, hb.frame _, fun h => by cases h⟩
  · exact trodAll_mk1 (shut_bool Tryf.underlying4 _)
  · exact trodAll_mk4 (shut_string Tryf.underlying9 ws) (shut_int Tryf.underlying3 wm) (shut_int Tryf.underlying3 wL) (shut_int Tryf.underlying3 wN)
  · rfl

theorem limitFirstThenOffset_told : Rows.FnRequestedPageLimitFirstThenOffsetToldSaid :=
  Claim7.holds_of_told_tied_any_at .later 3 Tryf.f3 "fmt.errorf" [] [] _ _ _ _ _ (by kernel_rfl) rfl rfl rfl Tryf.laidOut (by kernel_rfl) rfl ⟨rfl, rfl, rfl, rfl, rfl, rfl, rfl⟩ rfl rfl (by kernel_rfl) (by kernel_rfl) Tryf.func3 (by kernel_rfl)
    (of_decide_eq_true (by kernel_rfl)) (by unfold Func.isWrapper; rw [if_neg (of_decide_eq_false (by kernel_rfl))]; exact ⟨rfl, rfl⟩) Tryf.stops.symm rfl Tryf.stopKnobs.symm (by kernel_rfl)
    (by kernel_rfl) (by kernel_rfl) (by kernel_rfl) (by kernel_rfl) (by kernel_rfl) (by kernel_rfl) (by kernel_rfl) (by kernel_rfl) (by kernel_rfl) rfl (by kernel_rfl) rfl rfl
    rfl rfl
    rfl (by kernel_rfl) (by kernel_rfl) (by kernel_rfl) (by decide) (by kernel_rfl) fnRequestedPageLimitFirstThenOffset_row_tie
    (OpenClaim.moreEntering_of (by kernel_rfl) (by kernel_rfl) (by kernel_rfl) (by kernel_rfl) (by kernel_rfl) (by kernel_rfl) (by kernel_rfl) (by kernel_rfl) (by kernel_rfl) (by kernel_rfl))
    ⟨_, WideRow.started_initial, Tryf.quiet _⟩
    (fun os started _ H enc _ => lifted1 os started H enc)
end Go.Proofs.Qxb6614997aFmt
