/-
  NARROWER THAN 'FOR EVERY INPUT', by the rows' own cells (each row's printed sentence says how): LawS1328AParts: laid · LawS1328ASelfCover: laid.
  DERIVED. THE GIVEN ROWS OF THIS SEAT. 2 by the template 'for every input the law returns true; each argument reads behind the call as it read before'; 0 by the template 'total and deterministic' (their statements: YbulkaamcDoorTotals.lean).
  GIVEN WITH THE SEED: the statements are not yours to turn. If you find one false, say at which input.
  Laid BY PROGRAM, IN A SANDBOX (cutbox-rows.mjs): the forced cells as the released guide's own fill.sh prints them over the translation de5c44da2195db4d… (all of the seat's roots in one cut). By AI agents, Wed Nov 11 2026. No macro, syntax, notation, axiom, sorry.
-/
import Derived.Test.YbulkaamcDoorChecked
import GoSem.Claim
import GoSem.ClaimJoined
import GoSem.ClaimMapViews
import Derived.JoinedTies
import Derived.KernelRfl
namespace Go.Proofs.YbulkaamcDoor
/- THE CELL 'sum', in the pinned program and in every row, IS THE sha256 OF THE DUMP (.gsa) THAT YbulkaamcDoorProg.lean LOADS. Nothing in Lean hashes anything: it is a label: what it is worth is what the hold of that sum in a sandbox is worth. -/
noncomputable def Ybad.pinned : Pinned := { name := "ybulkaamcdoor", sum := "de5c44da2195db4d6f9b8552c3686b0d2a4e047f3e7c9853655090d2cb86b223", checked := Ybad.checked }
namespace Rows
def none {H : Type} : Left H := { results := [], args := [] }

/- WHAT THE LISTED PACKAGE-LEVEL VARIABLES READ AS WHEN THE CALL BEGINS. Each datum BY PROGRAM (the guide's laid-datum.mjs) off the statement by which the dump's own 'gosem.cut.vars' lays the variable. In a bare row this is a premise. The card (YbulkaamcDoorCards.lean) ties it to the program's text. -/
def laid_example_com_rowfence_rowfence_kindParts {H : Type} : DataW H := .agg [.lit (.int .u8 0), .lit (.int .u8 3), .lit (.int .u8 1), .lit (.int .u8 2), .lit (.int .u8 4)]

/-- 'rowfence.LawS1328AParts': WHATEVER THE INPUT: true; the input reads as it did. -/
def lawS1328APartsSpec : ChangeSpec := { name := "lawS1328AParts", vars := ["example.com/rowfence/rowfence.kindParts"], fn := fun _ => fun
  | [d1, d2, d3, g1] => { results := [.lit (.bool true)], args := [d1, d2, d3], vars := [g1] }
  | _ => none }
def lawS1328APartsRow : OpenClaim := { program := "ybulkaamcdoor", sum := "de5c44da2195db4d6f9b8552c3686b0d2a4e047f3e7c9853655090d2cb86b223", func := "example.com/rowfence/rowfence.LawS1328AParts", spec := "lawS1328AParts", named := ["example.com/rowfence/rowfence.kindParts"], apart := false, laid := [("example.com/rowfence/rowfence.kindParts", laid_example_com_rowfence_rowfence_kindParts)] }
def LawS1328APartsSaid : Prop := lawS1328APartsRow.holds Ybad.pinned (OpenSpec.ofChange lawS1328APartsSpec)

/-- ITS FALSE NEIGHBOUR: 'it returns false'. Refute it at one input. -/
def lawS1328APartsWrong : ChangeSpec := { name := "lawS1328AParts", vars := ["example.com/rowfence/rowfence.kindParts"], fn := fun _ => fun
  | [d1, d2, d3, g1] => { results := [.lit (.bool false)], args := [d1, d2, d3], vars := [g1] }
  | _ => none }
def LawS1328APartsWrongFalsely : Prop := lawS1328APartsRow.holds Ybad.pinned (OpenSpec.ofChange lawS1328APartsWrong)

/-- 'rowfence.LawS1328ASelfCover': WHATEVER THE INPUT: true; the input reads as it did. -/
def lawS1328ASelfCoverSpec : ChangeSpec := { name := "lawS1328ASelfCover", vars := ["example.com/rowfence/rowfence.kindParts"], fn := fun _ => fun
  | [d1, d2, d3, g1] => { results := [.lit (.bool true)], args := [d1, d2, d3], vars := [g1] }
  | _ => none }
def lawS1328ASelfCoverRow : OpenClaim := { program := "ybulkaamcdoor", sum := "de5c44da2195db4d6f9b8552c3686b0d2a4e047f3e7c9853655090d2cb86b223", func := "example.com/rowfence/rowfence.LawS1328ASelfCover", spec := "lawS1328ASelfCover", named := ["example.com/rowfence/rowfence.kindParts"], apart := false, laid := [("example.com/rowfence/rowfence.kindParts", laid_example_com_rowfence_rowfence_kindParts)] }
def LawS1328ASelfCoverSaid : Prop := lawS1328ASelfCoverRow.holds Ybad.pinned (OpenSpec.ofChange lawS1328ASelfCoverSpec)

/-- ITS FALSE NEIGHBOUR: 'it returns false'. Refute it at one input. -/
def lawS1328ASelfCoverWrong : ChangeSpec := { name := "lawS1328ASelfCover", vars := ["example.com/rowfence/rowfence.kindParts"], fn := fun _ => fun
  | [d1, d2, d3, g1] => { results := [.lit (.bool false)], args := [d1, d2, d3], vars := [g1] }
  | _ => none }
def LawS1328ASelfCoverWrongFalsely : Prop := lawS1328ASelfCoverRow.holds Ybad.pinned (OpenSpec.ofChange lawS1328ASelfCoverWrong)

end Rows
end Go.Proofs.YbulkaamcDoor
