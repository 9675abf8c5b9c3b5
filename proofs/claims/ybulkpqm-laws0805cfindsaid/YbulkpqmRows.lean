/-
  No cell of these rows narrows 'for every input' (looked for: loops, veiled, ifaces, maps, wideKeys, modest, calm, conditions, laid).
  DERIVED. THE GIVEN ROWS OF THIS SEAT. 6 by the template 'for every input the law returns true; each argument reads behind the call as it read before'; 0 by the template 'total and deterministic' (their statements: YbulkpqmTotals.lean).
  GIVEN WITH THE SEED: the statements are not yours to turn. If you find one false, say at which input.
  Laid BY PROGRAM, IN A SANDBOX (cutbox-rows.mjs): the forced cells as the released guide's own fill.sh prints them over the translation a43b1e4eeb640ae5… (all of the seat's roots in one cut). By AI agents, Wed Nov 11 2026. No macro, syntax, notation, axiom, sorry.
-/
import Derived.Test.YbulkpqmChecked
import GoSem.Claim
import GoSem.ClaimJoined
import GoSem.ClaimMapViews
import Derived.JoinedTies
import Derived.KernelRfl
namespace Go.Proofs.Ybulkpqm
/- THE CELL 'sum', in the pinned program and in every row, IS THE sha256 OF THE DUMP (.gsa) THAT YbulkpqmProg.lean LOADS. Nothing in Lean hashes anything: it is a label: what it is worth is what the hold of that sum in a sandbox is worth. -/
noncomputable def Yba.pinned : Pinned := { name := "ybulkpqm", sum := "a43b1e4eeb640ae58b8fe7dff55a98a21680ec6f4b1dfe60ace7220997254f88", checked := Yba.checked }
namespace Rows
def none {H : Type} : Left H := { results := [], args := [] }

/-- 'trivalent.LawS0805AExact': WHATEVER THE INPUT: true; the input reads as it did. -/
def lawS0805AExactSpec : ChangeSpec := { name := "lawS0805AExact", fn := fun _ => fun
  | [d1, d2] => { results := [.lit (.bool true)], args := [d1, d2] }
  | _ => none }
def lawS0805AExactRow : OpenClaim := { program := "ybulkpqm", sum := "a43b1e4eeb640ae58b8fe7dff55a98a21680ec6f4b1dfe60ace7220997254f88", func := "example.com/trivalent/trivalent.LawS0805AExact", spec := "lawS0805AExact", apart := false }
def LawS0805AExactSaid : Prop := lawS0805AExactRow.holds Yba.pinned (OpenSpec.ofChange lawS0805AExactSpec)

/-- ITS FALSE NEIGHBOUR: 'it returns false'. Refute it at one input. -/
def lawS0805AExactWrong : ChangeSpec := { name := "lawS0805AExact", fn := fun _ => fun
  | [d1, d2] => { results := [.lit (.bool false)], args := [d1, d2] }
  | _ => none }
def LawS0805AExactWrongFalsely : Prop := lawS0805AExactRow.holds Yba.pinned (OpenSpec.ofChange lawS0805AExactWrong)

/-- 'trivalent.LawS0805ASymmetric': WHATEVER THE INPUT: true; the input reads as it did. -/
def lawS0805ASymmetricSpec : ChangeSpec := { name := "lawS0805ASymmetric", fn := fun _ => fun
  | [d1, d2] => { results := [.lit (.bool true)], args := [d1, d2] }
  | _ => none }
def lawS0805ASymmetricRow : OpenClaim := { program := "ybulkpqm", sum := "a43b1e4eeb640ae58b8fe7dff55a98a21680ec6f4b1dfe60ace7220997254f88", func := "example.com/trivalent/trivalent.LawS0805ASymmetric", spec := "lawS0805ASymmetric", apart := false }
def LawS0805ASymmetricSaid : Prop := lawS0805ASymmetricRow.holds Yba.pinned (OpenSpec.ofChange lawS0805ASymmetricSpec)

/-- ITS FALSE NEIGHBOUR: 'it returns false'. Refute it at one input. -/
def lawS0805ASymmetricWrong : ChangeSpec := { name := "lawS0805ASymmetric", fn := fun _ => fun
  | [d1, d2] => { results := [.lit (.bool false)], args := [d1, d2] }
  | _ => none }
def LawS0805ASymmetricWrongFalsely : Prop := lawS0805ASymmetricRow.holds Yba.pinned (OpenSpec.ofChange lawS0805ASymmetricWrong)

/-- 'trivalent.LawS0805BExact': WHATEVER THE INPUT: true; the input reads as it did. -/
def lawS0805BExactSpec : ChangeSpec := { name := "lawS0805BExact", fn := fun _ => fun
  | [d] => { results := [.lit (.bool true)], args := [d] }
  | _ => none }
def lawS0805BExactRow : OpenClaim := { program := "ybulkpqm", sum := "a43b1e4eeb640ae58b8fe7dff55a98a21680ec6f4b1dfe60ace7220997254f88", func := "example.com/trivalent/trivalent.LawS0805BExact", spec := "lawS0805BExact", apart := false }
def LawS0805BExactSaid : Prop := lawS0805BExactRow.holds Yba.pinned (OpenSpec.ofChange lawS0805BExactSpec)

/-- ITS FALSE NEIGHBOUR: 'it returns false'. Refute it at one input. -/
def lawS0805BExactWrong : ChangeSpec := { name := "lawS0805BExact", fn := fun _ => fun
  | [d] => { results := [.lit (.bool false)], args := [d] }
  | _ => none }
def LawS0805BExactWrongFalsely : Prop := lawS0805BExactRow.holds Yba.pinned (OpenSpec.ofChange lawS0805BExactWrong)

/-- 'trivalent.LawS0805BCombine': WHATEVER THE INPUT: true; the input reads as it did. -/
def lawS0805BCombineSpec : ChangeSpec := { name := "lawS0805BCombine", fn := fun _ => fun
  | [d1, d2] => { results := [.lit (.bool true)], args := [d1, d2] }
  | _ => none }
def lawS0805BCombineRow : OpenClaim := { program := "ybulkpqm", sum := "a43b1e4eeb640ae58b8fe7dff55a98a21680ec6f4b1dfe60ace7220997254f88", func := "example.com/trivalent/trivalent.LawS0805BCombine", spec := "lawS0805BCombine", apart := false }
def LawS0805BCombineSaid : Prop := lawS0805BCombineRow.holds Yba.pinned (OpenSpec.ofChange lawS0805BCombineSpec)

/-- ITS FALSE NEIGHBOUR: 'it returns false'. Refute it at one input. -/
def lawS0805BCombineWrong : ChangeSpec := { name := "lawS0805BCombine", fn := fun _ => fun
  | [d1, d2] => { results := [.lit (.bool false)], args := [d1, d2] }
  | _ => none }
def LawS0805BCombineWrongFalsely : Prop := lawS0805BCombineRow.holds Yba.pinned (OpenSpec.ofChange lawS0805BCombineWrong)

/-- 'trivalent.LawS0805CIndex': WHATEVER THE INPUT: true; the input reads as it did. -/
def lawS0805CIndexSpec : ChangeSpec := { name := "lawS0805CIndex", fn := fun _ => fun
  | [d1, d2] => { results := [.lit (.bool true)], args := [d1, d2] }
  | _ => none }
def lawS0805CIndexRow : OpenClaim := { program := "ybulkpqm", sum := "a43b1e4eeb640ae58b8fe7dff55a98a21680ec6f4b1dfe60ace7220997254f88", func := "example.com/trivalent/trivalent.LawS0805CIndex", spec := "lawS0805CIndex", inPlace := ["internal/bytealg.abigen_runtime_cmpstring"], unfollowed := true, recurses := true, apart := false }
def LawS0805CIndexSaid : Prop := lawS0805CIndexRow.holds Yba.pinned (OpenSpec.ofChange lawS0805CIndexSpec)

/-- ITS FALSE NEIGHBOUR: 'it returns false'. Refute it at one input. -/
def lawS0805CIndexWrong : ChangeSpec := { name := "lawS0805CIndex", fn := fun _ => fun
  | [d1, d2] => { results := [.lit (.bool false)], args := [d1, d2] }
  | _ => none }
def LawS0805CIndexWrongFalsely : Prop := lawS0805CIndexRow.holds Yba.pinned (OpenSpec.ofChange lawS0805CIndexWrong)

/-- 'trivalent.LawS0805CFind': WHATEVER THE INPUT: true; the input reads as it did. -/
def lawS0805CFindSpec : ChangeSpec := { name := "lawS0805CFind", fn := fun _ => fun
  | [d1, d2, d3] => { results := [.lit (.bool true)], args := [d1, d2, d3] }
  | _ => none }
def lawS0805CFindRow : OpenClaim := { program := "ybulkpqm", sum := "a43b1e4eeb640ae58b8fe7dff55a98a21680ec6f4b1dfe60ace7220997254f88", func := "example.com/trivalent/trivalent.LawS0805CFind", spec := "lawS0805CFind", inPlace := ["internal/bytealg.abigen_runtime_cmpstring"], unfollowed := true, recurses := true, apart := false }
def LawS0805CFindSaid : Prop := lawS0805CFindRow.holds Yba.pinned (OpenSpec.ofChange lawS0805CFindSpec)

/-- ITS FALSE NEIGHBOUR: 'it returns false'. Refute it at one input. -/
def lawS0805CFindWrong : ChangeSpec := { name := "lawS0805CFind", fn := fun _ => fun
  | [d1, d2, d3] => { results := [.lit (.bool false)], args := [d1, d2, d3] }
  | _ => none }
def LawS0805CFindWrongFalsely : Prop := lawS0805CFindRow.holds Yba.pinned (OpenSpec.ofChange lawS0805CFindWrong)

end Rows
end Go.Proofs.Ybulkpqm
