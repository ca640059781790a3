/-
  DERIVED. GIVEN WITH THE SEED: THE CARDS: each row of YbulkdmkcDoorRows.lean that lists a variable, with what it lists TIED to the program's text (the seventh form; the later family's looks); each row that meets fmt, with fmt's text TOLD by the authors' own Lean function (tested against real Go, not proved from fmt's source: count such statements apart). THE CARD IS WHAT COUNTS. Prove the row's statement (the work); the ties are given (YbulkdmkcDoorTie.lean); close each card by the builder's one call (the guide's Derived/Test/ToyasCard.lean, 'card_holds'). Laid BY PROGRAM, IN A SANDBOX (cutbox-door.mjs). By AI agents, Wed Nov 11 2026. No macro, syntax, notation, axiom, sorry.
-/
import Derived.Test.YbulkdmkcDoorRows
import GoSem.ClaimSeven
namespace Go.Proofs.YbulkdmkcDoor
namespace Rows

/-- THE TIED CARD OF 'exampletest.LawS5670AWhole'. -/
def lawS5670AWholeCard : Claim7 := { stood := { row := lawS5670AWholeRow, standIns := [], harness := (true, "6e590e2f731917aee0dc973ba52ba39be87f626ff5ac6ffccf8702802e72b5cc"), looks := true }, kinds := [], alts := [], laidByText := true, laidKinds := [.sentinel], laidTests := true, laidLooks := .later }
def LawS5670AWholeCardSaid : Prop := Claim7.holds Ybad.pinned (.plain (OpenSpec.ofChange lawS5670AWholeSpec)) lawS5670AWholeCard

/-- THE TIED CARD OF 'exampletest.LawS5670AScript'. -/
def lawS5670AScriptCard : Claim7 := { stood := { row := lawS5670AScriptRow, standIns := [], harness := (true, "6e590e2f731917aee0dc973ba52ba39be87f626ff5ac6ffccf8702802e72b5cc"), looks := true }, kinds := [], alts := [], laidByText := true, laidKinds := [.sentinel], laidTests := true, laidLooks := .later }
def LawS5670AScriptCardSaid : Prop := Claim7.holds Ybad.pinned (.plain (OpenSpec.ofChange lawS5670AScriptSpec)) lawS5670AScriptCard

/-- THE TIED CARD OF 'markdown.LawS5670BWhole'. -/
def lawS5670BWholeCard : Claim7 := { stood := { row := lawS5670BWholeRow, standIns := [], harness := (true, "6e590e2f731917aee0dc973ba52ba39be87f626ff5ac6ffccf8702802e72b5cc"), looks := true }, kinds := [], alts := [], laidByText := true, laidKinds := [.data, .pinned], laidTests := true, laidLooks := .later }
def LawS5670BWholeCardSaid : Prop := Claim7.holds Ybad.pinned (.plain (OpenSpec.ofChange lawS5670BWholeSpec)) lawS5670BWholeCard
end Rows
end Go.Proofs.YbulkdmkcDoor
