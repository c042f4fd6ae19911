/-
  DERIVED. GIVEN WITH THE SEED: THE CARDS: each row of YbulkaqnyDoorRows.lean that lists a variable, with what it lists TIED to the program's text (the seventh form; the later family's looks); each row that meets fmt, with fmt's text TOLD by the authors' own Lean function (tested against real Go, not proved from fmt's source: count such statements apart). THE CARD IS WHAT COUNTS. Prove the row's statement (the work); the ties are given (YbulkaqnyDoorTie.lean); close each card by the builder's one call (the guide's Derived/Test/ToyasCard.lean, 'card_holds'). Laid BY PROGRAM, IN A SANDBOX (cutbox-door.mjs). By AI agents, Wed Nov 11 2026. No macro, syntax, notation, axiom, sorry.
-/
import Derived.Test.YbulkaqnyDoorRows
import GoSem.ClaimSeven
namespace Go.Proofs.YbulkaqnyDoor
namespace Rows

/-- THE TIED CARD OF 'holdfast.LawS2104AMatchesPlainScan'. -/
def lawS2104AMatchesPlainScanCard : Claim7 := { stood := { row := lawS2104AMatchesPlainScanRow, standIns := [], harness := (true, "b13d42ef7b50dfc0a96bcf989c3db67d5b74d988d7f8a810b17d7f1a6d62cbab"), looks := false }, kinds := [], alts := [], laidByText := true, laidKinds := [.data], laidTests := true, laidLooks := .later }
def LawS2104AMatchesPlainScanCardSaid : Prop := Claim7.holds Ybad.pinned (.plain (OpenSpec.ofChange lawS2104AMatchesPlainScanSpec)) lawS2104AMatchesPlainScanCard
end Rows
end Go.Proofs.YbulkaqnyDoor
