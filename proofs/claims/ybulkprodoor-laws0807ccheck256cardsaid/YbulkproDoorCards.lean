/-
  DERIVED. GIVEN WITH THE SEED: THE CARDS: each row of YbulkproDoorRows.lean that lists a variable, with what it lists TIED to the program's text (the seventh form; the later family's looks); each row that meets fmt, with fmt's text TOLD by the authors' own Lean function (tested against real Go, not proved from fmt's source: count such statements apart). THE CARD IS WHAT COUNTS. Prove the row's statement (the work); the ties are given (YbulkproDoorTie.lean); close each card by the builder's one call (the guide's Derived/Test/ToyasCard.lean, 'card_holds'). Laid BY PROGRAM, IN A SANDBOX (cutbox-door.mjs). By AI agents, Wed Nov 11 2026. No macro, syntax, notation, axiom, sorry.
-/
import Derived.Test.YbulkproDoorRows
import GoSem.ClaimSeven
namespace Go.Proofs.YbulkproDoor
namespace Rows

/-- THE TIED CARD OF 'hashwright.LawS0807CRoundTrip256'. -/
def lawS0807CRoundTrip256Card : Claim7 := { stood := { row := lawS0807CRoundTrip256Row, standIns := [], harness := (true, "e163af4d8149c08bf10502243f889cfb9649bda821abaffd064a51d8e77ed8e9"), looks := true }, kinds := [], alts := [], laidByText := true, laidKinds := [.data, .data, .data], laidTests := true, laidLooks := .later }
def LawS0807CRoundTrip256CardSaid : Prop := Claim7.holds Ybad.pinned (.plain (OpenSpec.ofChange lawS0807CRoundTrip256Spec)) lawS0807CRoundTrip256Card

/-- THE TIED CARD OF 'hashwright.LawS0807CCheck256'. -/
def lawS0807CCheck256Card : Claim7 := { stood := { row := lawS0807CCheck256Row, standIns := [], harness := (true, "e163af4d8149c08bf10502243f889cfb9649bda821abaffd064a51d8e77ed8e9"), looks := true }, kinds := [], alts := [], laidByText := true, laidKinds := [.data, .data, .data], laidTests := true, laidLooks := .later }
def LawS0807CCheck256CardSaid : Prop := Claim7.holds Ybad.pinned (.plain (OpenSpec.ofChange lawS0807CCheck256Spec)) lawS0807CCheck256Card

/-- THE TIED CARD OF 'hashwright.LawS0807CRoundTrip512'. -/
def lawS0807CRoundTrip512Card : Claim7 := { stood := { row := lawS0807CRoundTrip512Row, standIns := [], harness := (true, "e163af4d8149c08bf10502243f889cfb9649bda821abaffd064a51d8e77ed8e9"), looks := true }, kinds := [], alts := [], laidByText := true, laidKinds := [.data, .data, .data], laidTests := true, laidLooks := .later }
def LawS0807CRoundTrip512CardSaid : Prop := Claim7.holds Ybad.pinned (.plain (OpenSpec.ofChange lawS0807CRoundTrip512Spec)) lawS0807CRoundTrip512Card
end Rows
end Go.Proofs.YbulkproDoor
