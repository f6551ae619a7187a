/-
  No cell of these rows narrows 'for every input' (looked for: loops, veiled, ifaces, maps, wideKeys, modest, calm, conditions, laid).
  DERIVED. THE GIVEN ROWS OF THIS SEAT. 2 by the template 'for every input the law returns true; each argument reads behind the call as it read before'; 0 by the template 'total and deterministic' (their statements: YbulkaamcTotals.lean).
  GIVEN WITH THE SEED: the statements are not yours to turn. If you find one false, say at which input.
  Laid BY PROGRAM, IN A SANDBOX (cutbox-rows.mjs): the forced cells as the released guide's own fill.sh prints them over the translation 52d2858dfa4bafdd… (all of the seat's roots in one cut). By AI agents, Wed Nov 11 2026. No macro, syntax, notation, axiom, sorry.
-/
import Derived.Test.YbulkaamcChecked
import GoSem.Claim
import GoSem.ClaimJoined
import GoSem.ClaimMapViews
import Derived.JoinedTies
import Derived.KernelRfl
namespace Go.Proofs.Ybulkaamc
/- THE CELL 'sum', in the pinned program and in every row, IS THE sha256 OF THE DUMP (.gsa) THAT YbulkaamcProg.lean LOADS. Nothing in Lean hashes anything: it is a label: what it is worth is what the hold of that sum in a sandbox is worth. -/
noncomputable def Yba.pinned : Pinned := { name := "ybulkaamc", sum := "52d2858dfa4bafdd70d42931063b875004acf0833f662f614999cfad45c7f2e0", checked := Yba.checked }
namespace Rows
def none {H : Type} : Left H := { results := [], args := [] }

/-- 'rowfence.LawS1328CTable': WHATEVER THE INPUT: true; the input reads as it did. -/
def lawS1328CTableSpec : ChangeSpec := { name := "lawS1328CTable", fn := fun _ => fun
  | [d1, d2, d3, d4] => { results := [.lit (.bool true)], args := [d1, d2, d3, d4] }
  | _ => none }
def lawS1328CTableRow : OpenClaim := { program := "ybulkaamc", sum := "52d2858dfa4bafdd70d42931063b875004acf0833f662f614999cfad45c7f2e0", func := "example.com/rowfence/rowfence.LawS1328CTable", spec := "lawS1328CTable", apart := false }
def LawS1328CTableSaid : Prop := lawS1328CTableRow.holds Yba.pinned (OpenSpec.ofChange lawS1328CTableSpec)

/-- ITS FALSE NEIGHBOUR: 'it returns false'. Refute it at one input. -/
def lawS1328CTableWrong : ChangeSpec := { name := "lawS1328CTable", fn := fun _ => fun
  | [d1, d2, d3, d4] => { results := [.lit (.bool false)], args := [d1, d2, d3, d4] }
  | _ => none }
def LawS1328CTableWrongFalsely : Prop := lawS1328CTableRow.holds Yba.pinned (OpenSpec.ofChange lawS1328CTableWrong)

/-- 'rowfence.LawS1328CBuilt': WHATEVER THE INPUT: true; the input reads as it did. -/
def lawS1328CBuiltSpec : ChangeSpec := { name := "lawS1328CBuilt", fn := fun _ => fun
  | [d1, d2, d3, d4] => { results := [.lit (.bool true)], args := [d1, d2, d3, d4] }
  | _ => none }
def lawS1328CBuiltRow : OpenClaim := { program := "ybulkaamc", sum := "52d2858dfa4bafdd70d42931063b875004acf0833f662f614999cfad45c7f2e0", func := "example.com/rowfence/rowfence.LawS1328CBuilt", spec := "lawS1328CBuilt", apart := false }
def LawS1328CBuiltSaid : Prop := lawS1328CBuiltRow.holds Yba.pinned (OpenSpec.ofChange lawS1328CBuiltSpec)

/-- ITS FALSE NEIGHBOUR: 'it returns false'. Refute it at one input. -/
def lawS1328CBuiltWrong : ChangeSpec := { name := "lawS1328CBuilt", fn := fun _ => fun
  | [d1, d2, d3, d4] => { results := [.lit (.bool false)], args := [d1, d2, d3, d4] }
  | _ => none }
def LawS1328CBuiltWrongFalsely : Prop := lawS1328CBuiltRow.holds Yba.pinned (OpenSpec.ofChange lawS1328CBuiltWrong)

end Rows
end Go.Proofs.Ybulkaamc
