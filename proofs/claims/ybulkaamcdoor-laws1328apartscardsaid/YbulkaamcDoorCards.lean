/-
  DERIVED. GIVEN WITH THE SEED: THE CARDS: each row of YbulkaamcDoorRows.lean that lists a variable, with what it lists TIED to the program's text (the seventh form; the later family's looks); each row that meets fmt, with fmt's text TOLD by the authors' own Lean function (tested against real Go, not proved from fmt's source: count such statements apart). THE CARD IS WHAT COUNTS. Prove the row's statement (the work); the ties are given (YbulkaamcDoorTie.lean); close each card by the builder's one call (the guide's Derived/Test/ToyasCard.lean, 'card_holds'). Laid BY PROGRAM, IN A SANDBOX (cutbox-door.mjs). By AI agents, Wed Nov 11 2026. No macro, syntax, notation, axiom, sorry.
-/
import Derived.Test.YbulkaamcDoorRows
import GoSem.ClaimSeven
namespace Go.Proofs.YbulkaamcDoor
namespace Rows

/-- THE TIED CARD OF 'rowfence.LawS1328AParts'. -/
def lawS1328APartsCard : Claim7 := { stood := { row := lawS1328APartsRow, standIns := [], harness := (true, "ec9021811139e61270d196364dcd5828ad99544d5037f385b6da308e50774dac"), looks := false }, kinds := [], alts := [], laidByText := true, laidKinds := [.wider], laidTests := true, laidLooks := .later }
def LawS1328APartsCardSaid : Prop := Claim7.holds Ybad.pinned (.plain (OpenSpec.ofChange lawS1328APartsSpec)) lawS1328APartsCard

/-- THE TIED CARD OF 'rowfence.LawS1328ASelfCover'. -/
def lawS1328ASelfCoverCard : Claim7 := { stood := { row := lawS1328ASelfCoverRow, standIns := [], harness := (true, "ec9021811139e61270d196364dcd5828ad99544d5037f385b6da308e50774dac"), looks := false }, kinds := [], alts := [], laidByText := true, laidKinds := [.wider], laidTests := true, laidLooks := .later }
def LawS1328ASelfCoverCardSaid : Prop := Claim7.holds Ybad.pinned (.plain (OpenSpec.ofChange lawS1328ASelfCoverSpec)) lawS1328ASelfCoverCard
end Rows
end Go.Proofs.YbulkaamcDoor
