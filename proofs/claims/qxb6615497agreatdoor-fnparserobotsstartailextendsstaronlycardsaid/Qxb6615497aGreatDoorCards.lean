/-
  DERIVED. GIVEN WITH THE SEED: THE CARDS: each row of Qxb6615497aGreatDoorRows.lean that lists a variable, with what it lists TIED to the program's text (the seventh form; the later family's looks); each row that meets fmt, with fmt's text TOLD by the authors' own Lean function (tested against real Go, not proved from fmt's source: count such statements apart). THE CARD IS WHAT COUNTS. Prove the row's statement (the work); the ties are given (Qxb6615497aGreatDoorTie.lean); close each card by the builder's one call (the guide's Derived/Test/ToyasCard.lean, 'card_holds'). Laid BY PROGRAM, IN A SANDBOX (cutbox-door.mjs). By AI agents, Wed Nov 11 2026. No macro, syntax, notation, axiom, sorry.
-/
import Derived.Test.Qxb6615497aGreatDoorRows
import GoSem.ClaimSeven
namespace Go.Proofs.Qxb6615497aGreatDoor
namespace Rows

/-- THE TIED CARD OF 'zzlaws_root_b1.FnIsLineEndSplitsRobotsLines'. -/
def fnIsLineEndSplitsRobotsLinesCard : Claim7 := { stood := { row := fnIsLineEndSplitsRobotsLinesRow, standIns := [], harness := (true, "f6467699edcd6a2df80af43aa4eb6b0c8eaad8aacf6ec2647562aafd4a9f2e53"), looks := true }, kinds := [], alts := [], laidByText := true, laidKinds := [.data, .data, .widerDeep, .widerDeep, .data, .data, .data, .data, .data, .data, .sentinel, .sentinel, .data, .data, .pinned, .pinned, .pinned, .pinned], laidTests := true, laidLooks := .later }
def FnIsLineEndSplitsRobotsLinesCardSaid : Prop := Claim7.holds Tryz.pinned (.plain (OpenSpec.ofChange fnIsLineEndSplitsRobotsLinesSpec)) fnIsLineEndSplitsRobotsLinesCard

/-- THE TIED CARD OF 'zzlaws_root_b1.FnParseRobotsMatchesGroupModel'. -/
def fnParseRobotsMatchesGroupModelCard : Claim7 := { stood := { row := fnParseRobotsMatchesGroupModelRow, standIns := [], harness := (true, "f6467699edcd6a2df80af43aa4eb6b0c8eaad8aacf6ec2647562aafd4a9f2e53"), looks := true }, kinds := [], alts := [], laidByText := true, laidKinds := [.data, .data, .widerDeep, .widerDeep, .data, .data, .data, .data, .data, .data, .sentinel, .sentinel, .data, .data, .pinned, .pinned, .pinned, .pinned], laidTests := true, laidLooks := .later }
def FnParseRobotsMatchesGroupModelCardSaid : Prop := Claim7.holds Tryz.pinned (.plain (OpenSpec.ofChange fnParseRobotsMatchesGroupModelSpec)) fnParseRobotsMatchesGroupModelCard

/-- THE TIED CARD OF 'zzlaws_root_b1.FnParseRobotsStarTailExtendsStarOnly'. -/
def fnParseRobotsStarTailExtendsStarOnlyCard : Claim7 := { stood := { row := fnParseRobotsStarTailExtendsStarOnlyRow, standIns := [], harness := (true, "f6467699edcd6a2df80af43aa4eb6b0c8eaad8aacf6ec2647562aafd4a9f2e53"), looks := true }, kinds := [], alts := [], laidByText := true, laidKinds := [.data, .data, .widerDeep, .widerDeep, .data, .data, .data, .data, .data, .data, .sentinel, .sentinel, .data, .data, .pinned, .pinned, .pinned, .pinned], laidTests := true, laidLooks := .later }
def FnParseRobotsStarTailExtendsStarOnlyCardSaid : Prop := Claim7.holds Tryz.pinned (.plain (OpenSpec.ofChange fnParseRobotsStarTailExtendsStarOnlySpec)) fnParseRobotsStarTailExtendsStarOnlyCard
end Rows
end Go.Proofs.Qxb6615497aGreatDoor
