/-
  DERIVED. GIVEN WITH THE SEED: THE CARDS: each row of Qxb6606071aDoorRows.lean that lists a variable, with what it lists TIED to the program's text (the seventh form; the later family's looks); each row that meets fmt, with fmt's text TOLD by the authors' own Lean function (tested against real Go, not proved from fmt's source: count such statements apart). THE CARD IS WHAT COUNTS. Prove the row's statement (the work); the ties are given (Qxb6606071aDoorTie.lean); close each card by the builder's one call (the guide's Derived/Test/ToyasCard.lean, 'card_holds'). Laid BY PROGRAM, IN A SANDBOX (cutbox-door.mjs). By AI agents, Wed Nov 11 2026. No macro, syntax, notation, axiom, sorry.
-/
import Derived.Test.Qxb6606071aDoorRows
import GoSem.ClaimSeven
namespace Go.Proofs.Qxb6606071aDoor
namespace Rows

/-- THE TIED CARD OF 'zzlaws_internal_numtext_b1.FnScanSpec'. -/
def fnScanSpecCard : Claim7 := { stood := { row := fnScanSpecRow, standIns := [], harness := (true, "96f561fe51ed450b71c5836931b18dd19c4b04872f993ef6e22f625e72ac594e"), looks := true }, kinds := [], alts := [], laidByText := true, laidKinds := [.data, .pinned], laidTests := true, laidLooks := .later }
def FnScanSpecCardSaid : Prop := Claim7.holds Tryd.pinned (.plain (OpenSpec.ofChange fnScanSpecSpec)) fnScanSpecCard

/-- THE TIED CARD OF 'zzlaws_internal_numtext_b1.FnScanIdempotent'. -/
def fnScanIdempotentCard : Claim7 := { stood := { row := fnScanIdempotentRow, standIns := [], harness := (true, "96f561fe51ed450b71c5836931b18dd19c4b04872f993ef6e22f625e72ac594e"), looks := true }, kinds := [], alts := [], laidByText := true, laidKinds := [.data, .pinned], laidTests := true, laidLooks := .later }
def FnScanIdempotentCardSaid : Prop := Claim7.holds Tryd.pinned (.plain (OpenSpec.ofChange fnScanIdempotentSpec)) fnScanIdempotentCard

/-- THE TIED CARD OF 'zzlaws_internal_numtext_b1.FnReadWholeSpec'. -/
def fnReadWholeSpecCard : Claim7 := { stood := { row := fnReadWholeSpecRow, standIns := [], harness := (true, "96f561fe51ed450b71c5836931b18dd19c4b04872f993ef6e22f625e72ac594e"), looks := true }, kinds := [], alts := [], laidByText := true, laidKinds := [.data, .data, .widerDeep, .widerDeep, .data, .data, .data, .data, .data, .data, .sentinel, .sentinel, .pinned, .pinned, .pinned], laidTests := true, laidLooks := .later }
def FnReadWholeSpecCardSaid : Prop := Claim7.holds Tryd.pinned (.plain (OpenSpec.ofChange fnReadWholeSpecSpec)) fnReadWholeSpecCard
end Rows
end Go.Proofs.Qxb6606071aDoor
