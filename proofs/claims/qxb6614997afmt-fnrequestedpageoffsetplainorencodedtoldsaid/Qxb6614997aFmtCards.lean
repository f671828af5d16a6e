/-
  DERIVED. GIVEN WITH THE SEED: THE CARDS: each row of Qxb6614997aFmtRows.lean that lists a variable, with what it lists TIED to the program's text (the seventh form; the later family's looks); each row that meets fmt, with fmt's text TOLD by the authors' own Lean function (tested against real Go, not proved from fmt's source: count such statements apart). THE CARD IS WHAT COUNTS. Prove the row's statement (the work); the ties are given (Qxb6614997aFmtTie.lean); close each card by the builder's one call (the guide's Derived/Test/ToyasCard.lean, 'card_holds'). Laid BY PROGRAM, IN A SANDBOX (cutbox-door.mjs). By AI agents, Wed Nov 11 2026. No macro, syntax, notation, axiom, sorry.
-/
import Derived.Test.Qxb6614997aFmtRows
import GoSem.ClaimSeven
namespace Go.Proofs.Qxb6614997aFmt
namespace Rows

/-- THE TOLD AND TIED CARD OF 'zzlaws_root_b1.FnRequestedPageLimitFirstThenOffset'. -/
def fnRequestedPageLimitFirstThenOffsetCard : Claim7 := { stood := { row := fnRequestedPageLimitFirstThenOffsetRow, standIns := [], harness := (true, "c9b3ee6a7f47803e3362d2f09bb1a481b71623e9654bb0355965c33a790f9e2c"), looks := false }, told := true, laidByText := true, laidKinds := [.data, .data, .pinned], laidTests := true, laidLooks := .later, goes := false }
def FnRequestedPageLimitFirstThenOffsetToldSaid : Prop := Claim7.holds Tryf.pinned (.plain (OpenSpec.ofChange fnRequestedPageLimitFirstThenOffsetSpec)) fnRequestedPageLimitFirstThenOffsetCard
/-- ITS FALSE NEIGHBOUR. Refute it at one input. -/
def FnRequestedPageLimitFirstThenOffsetToldWrongFalsely : Prop := Claim7.holds Tryf.pinned (.plain (OpenSpec.ofChange fnRequestedPageLimitFirstThenOffsetWrong)) fnRequestedPageLimitFirstThenOffsetCard

/-- THE TOLD AND TIED CARD OF 'zzlaws_root_b1.FnRequestedPageOffsetPlainOrEncoded'. -/
def fnRequestedPageOffsetPlainOrEncodedCard : Claim7 := { stood := { row := fnRequestedPageOffsetPlainOrEncodedRow, standIns := [], harness := (true, "c9b3ee6a7f47803e3362d2f09bb1a481b71623e9654bb0355965c33a790f9e2c"), looks := false }, told := true, laidByText := true, laidKinds := [.data, .data, .pinned], laidTests := true, laidLooks := .later, goes := false }
def FnRequestedPageOffsetPlainOrEncodedToldSaid : Prop := Claim7.holds Tryf.pinned (.plain (OpenSpec.ofChange fnRequestedPageOffsetPlainOrEncodedSpec)) fnRequestedPageOffsetPlainOrEncodedCard
/-- ITS FALSE NEIGHBOUR. Refute it at one input. -/
def FnRequestedPageOffsetPlainOrEncodedToldWrongFalsely : Prop := Claim7.holds Tryf.pinned (.plain (OpenSpec.ofChange fnRequestedPageOffsetPlainOrEncodedWrong)) fnRequestedPageOffsetPlainOrEncodedCard
end Rows
end Go.Proofs.Qxb6614997aFmt
