/-
  DERIVED. GIVEN WITH THE SEED: THE CARDS: each row of YbulkpsqDoorRows.lean that lists a variable, with what it lists TIED to the program's text (the seventh form; the later family's looks); each row that meets fmt, with fmt's text TOLD by the authors' own Lean function (tested against real Go, not proved from fmt's source: count such statements apart). THE CARD IS WHAT COUNTS. Prove the row's statement (the work); the ties are given (YbulkpsqDoorTie.lean); close each card by the builder's one call (the guide's Derived/Test/ToyasCard.lean, 'card_holds'). Laid BY PROGRAM, IN A SANDBOX (cutbox-door.mjs). By AI agents, Wed Nov 11 2026. No macro, syntax, notation, axiom, sorry.
-/
import Derived.Test.YbulkpsqDoorRows
import GoSem.ClaimSeven
namespace Go.Proofs.YbulkpsqDoor
namespace Rows

/-- THE TIED CARD OF 'heapdump.LawS0809AStream'. -/
def lawS0809AStreamCard : Claim7 := { stood := { row := lawS0809AStreamRow, standIns := [], harness := (true, "26adfd244477952fd744660e98990771ca163980287bae74cba2db1d69fdd1cb"), looks := true }, kinds := [], alts := [], laidByText := true, laidKinds := [.sentinel, .sentinel, .sentinel], laidTests := true, laidLooks := .later }
def LawS0809AStreamCardSaid : Prop := Claim7.holds Ybad.pinned (.plain (OpenSpec.ofChange lawS0809AStreamSpec)) lawS0809AStreamCard
end Rows
end Go.Proofs.YbulkpsqDoor
