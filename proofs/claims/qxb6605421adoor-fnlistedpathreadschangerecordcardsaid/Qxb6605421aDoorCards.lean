/-
  DERIVED. GIVEN WITH THE SEED: THE CARDS: each row of Qxb6605421aDoorRows.lean that lists a variable, with what it lists TIED to the program's text (the seventh form; the later family's looks); each row that meets fmt, with fmt's text TOLD by the authors' own Lean function (tested against real Go, not proved from fmt's source: count such statements apart). THE CARD IS WHAT COUNTS. Prove the row's statement (the work); the ties are given (Qxb6605421aDoorTie.lean); close each card by the builder's one call (the guide's Derived/Test/ToyasCard.lean, 'card_holds'). Laid BY PROGRAM, IN A SANDBOX (cutbox-door.mjs). By AI agents, Wed Nov 11 2026. No macro, syntax, notation, axiom, sorry.
-/
import Derived.Test.Qxb6605421aDoorRows
import GoSem.ClaimSeven
namespace Go.Proofs.Qxb6605421aDoor
namespace Rows

/-- THE TIED CARD OF 'zzlaws_internal_worktree_b1.FnIsTrueOfWrittenNumber'. -/
def fnIsTrueOfWrittenNumberCard : Claim7 := { stood := { row := fnIsTrueOfWrittenNumberRow, standIns := [], harness := (true, "0cca092ec9748da96e8eff1462c6cb777138e505fdaaf4b6d75e5b0d52dc7616"), looks := true }, kinds := [], alts := [], laidByText := true, laidKinds := [.data, .data, .data, .data, .sentinel, .sentinel, .pinned, .pinned], laidTests := true, laidLooks := .later }
def FnIsTrueOfWrittenNumberCardSaid : Prop := Claim7.holds Tryd.pinned (.plain (OpenSpec.ofChange fnIsTrueOfWrittenNumberSpec)) fnIsTrueOfWrittenNumberCard

/-- THE TIED CARD OF 'zzlaws_internal_worktree_b1.FnHeaderReadsWhatIsWritten'. -/
def fnHeaderReadsWhatIsWrittenCard : Claim7 := { stood := { row := fnHeaderReadsWhatIsWrittenRow, standIns := [], harness := (true, "0cca092ec9748da96e8eff1462c6cb777138e505fdaaf4b6d75e5b0d52dc7616"), looks := true }, kinds := [], alts := [], laidByText := true, laidKinds := [.data, .pinned, .pinned], laidTests := true, laidLooks := .later }
def FnHeaderReadsWhatIsWrittenCardSaid : Prop := Claim7.holds Tryd.pinned (.plain (OpenSpec.ofChange fnHeaderReadsWhatIsWrittenSpec)) fnHeaderReadsWhatIsWrittenCard

/-- THE TIED CARD OF 'zzlaws_internal_worktree_b1.FnListedPathReadsChangeRecord'. -/
def fnListedPathReadsChangeRecordCard : Claim7 := { stood := { row := fnListedPathReadsChangeRecordRow, standIns := [], harness := (true, "0cca092ec9748da96e8eff1462c6cb777138e505fdaaf4b6d75e5b0d52dc7616"), looks := true }, kinds := [], alts := [], laidByText := true, laidKinds := [.data, .pinned], laidTests := true, laidLooks := .later }
def FnListedPathReadsChangeRecordCardSaid : Prop := Claim7.holds Tryd.pinned (.plain (OpenSpec.ofChange fnListedPathReadsChangeRecordSpec)) fnListedPathReadsChangeRecordCard

/-- THE TIED CARD OF 'zzlaws_internal_worktree_b1.FnListedPathReadsUntracked'. -/
def fnListedPathReadsUntrackedCard : Claim7 := { stood := { row := fnListedPathReadsUntrackedRow, standIns := [], harness := (true, "0cca092ec9748da96e8eff1462c6cb777138e505fdaaf4b6d75e5b0d52dc7616"), looks := true }, kinds := [], alts := [], laidByText := true, laidKinds := [.data, .pinned], laidTests := true, laidLooks := .later }
def FnListedPathReadsUntrackedCardSaid : Prop := Claim7.holds Tryd.pinned (.plain (OpenSpec.ofChange fnListedPathReadsUntrackedSpec)) fnListedPathReadsUntrackedCard
end Rows
end Go.Proofs.Qxb6605421aDoor
