/-
  DERIVED. GIVEN WITH THE SEED: THE CARDS: each row of YbulkdmxaDoorRows.lean that lists a variable, with what it lists TIED to the program's text (the seventh form; the later family's looks); each row that meets fmt, with fmt's text TOLD by the authors' own Lean function (tested against real Go, not proved from fmt's source: count such statements apart). THE CARD IS WHAT COUNTS. Prove the row's statement (the work); the ties are given (YbulkdmxaDoorTie.lean); close each card by the builder's one call (the guide's Derived/Test/ToyasCard.lean, 'card_holds'). Laid BY PROGRAM, IN A SANDBOX (cutbox-door.mjs). By AI agents, Wed Nov 11 2026. No macro, syntax, notation, axiom, sorry.
-/
import Derived.Test.YbulkdmxaDoorRows
import GoSem.ClaimSeven
namespace Go.Proofs.YbulkdmxaDoor
namespace Rows

/-- THE TIED CARD OF 'credential.LawS5694CWhole'. -/
def lawS5694CWholeCard : Claim7 := { stood := { row := lawS5694CWholeRow, standIns := [], harness := (true, "41b6a3a84b6e92a8739f0dfdc917dc6239ed90c1f08e3c22380cb11839b6363d"), looks := false }, kinds := [], alts := [], laidByText := true, laidKinds := [.sentinel], laidTests := true, laidLooks := .later }
def LawS5694CWholeCardSaid : Prop := Claim7.holds Ybad.pinned (.plain (OpenSpec.ofChange lawS5694CWholeSpec)) lawS5694CWholeCard
end Rows
end Go.Proofs.YbulkdmxaDoor
