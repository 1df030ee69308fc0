/-
  DERIVED. GIVEN WITH THE SEED: THE CARDS: each row of YbulkbbleDoorRows.lean that lists a variable, with what it lists TIED to the program's text (the seventh form; the later family's looks); each row that meets fmt, with fmt's text TOLD by the authors' own Lean function (tested against real Go, not proved from fmt's source: count such statements apart). THE CARD IS WHAT COUNTS. Prove the row's statement (the work); the ties are given (YbulkbbleDoorTie.lean); close each card by the builder's one call (the guide's Derived/Test/ToyasCard.lean, 'card_holds'). Laid BY PROGRAM, IN A SANDBOX (cutbox-door.mjs). By AI agents, Wed Nov 11 2026. No macro, syntax, notation, axiom, sorry.
-/
import Derived.Test.YbulkbbleDoorRows
import GoSem.ClaimSeven
namespace Go.Proofs.YbulkbbleDoor
namespace Rows

/-- THE TIED CARD OF 'storage.LawS2630CFound'. -/
def lawS2630CFoundCard : Claim7 := { stood := { row := lawS2630CFoundRow, standIns := [], harness := (true, "e69265d1325c7f50fc3b74d84e526a4242723c27ffc895329ad2c7ced0f99ebb"), looks := false }, kinds := [], alts := [], laidByText := true, laidKinds := [.called, .called], laidTests := true, laidLooks := .later }
def LawS2630CFoundCardSaid : Prop := Claim7.holds Ybad.pinned (.plain (OpenSpec.ofChange lawS2630CFoundSpec)) lawS2630CFoundCard

/-- THE TIED CARD OF 'storage.LawS2630CTwoTables'. -/
def lawS2630CTwoTablesCard : Claim7 := { stood := { row := lawS2630CTwoTablesRow, standIns := [], harness := (true, "e69265d1325c7f50fc3b74d84e526a4242723c27ffc895329ad2c7ced0f99ebb"), looks := false }, kinds := [], alts := [], laidByText := true, laidKinds := [.called, .called], laidTests := true, laidLooks := .later }
def LawS2630CTwoTablesCardSaid : Prop := Claim7.holds Ybad.pinned (.plain (OpenSpec.ofChange lawS2630CTwoTablesSpec)) lawS2630CTwoTablesCard
end Rows
end Go.Proofs.YbulkbbleDoor
