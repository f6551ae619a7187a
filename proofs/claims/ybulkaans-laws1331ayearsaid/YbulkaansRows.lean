/-
  No cell of these rows narrows 'for every input' (looked for: loops, veiled, ifaces, maps, wideKeys, modest, calm, conditions, laid).
  DERIVED. THE GIVEN ROWS OF THIS SEAT. 2 by the template 'for every input the law returns true; each argument reads behind the call as it read before'; 0 by the template 'total and deterministic' (their statements: YbulkaansTotals.lean).
  GIVEN WITH THE SEED: the statements are not yours to turn. If you find one false, say at which input.
  Laid BY PROGRAM, IN A SANDBOX (cutbox-rows.mjs): the forced cells as the released guide's own fill.sh prints them over the translation ca55b7455c90a879… (all of the seat's roots in one cut). By AI agents, Wed Nov 11 2026. No macro, syntax, notation, axiom, sorry.
-/
import Derived.Test.YbulkaansChecked
import GoSem.Claim
import GoSem.ClaimJoined
import GoSem.ClaimMapViews
import Derived.JoinedTies
import Derived.KernelRfl
namespace Go.Proofs.Ybulkaans
/- THE CELL 'sum', in the pinned program and in every row, IS THE sha256 OF THE DUMP (.gsa) THAT YbulkaansProg.lean LOADS. Nothing in Lean hashes anything: it is a label: what it is worth is what the hold of that sum in a sandbox is worth. -/
noncomputable def Yba.pinned : Pinned := { name := "ybulkaans", sum := "ca55b7455c90a879cde902a72f986b1fd206c867d0e8ffd685df70bbab9ec699", checked := Yba.checked }
namespace Rows
def none {H : Type} : Left H := { results := [], args := [] }

/-- 'cofferdam.LawS1331AExact': WHATEVER THE INPUT: true; the input reads as it did. -/
def lawS1331AExactSpec : ChangeSpec := { name := "lawS1331AExact", fn := fun _ => fun
  | [d1, d2] => { results := [.lit (.bool true)], args := [d1, d2] }
  | _ => none }
def lawS1331AExactRow : OpenClaim := { program := "ybulkaans", sum := "ca55b7455c90a879cde902a72f986b1fd206c867d0e8ffd685df70bbab9ec699", func := "example.com/cofferdam/cofferdam.LawS1331AExact", spec := "lawS1331AExact", apart := false }
def LawS1331AExactSaid : Prop := lawS1331AExactRow.holds Yba.pinned (OpenSpec.ofChange lawS1331AExactSpec)

/-- ITS FALSE NEIGHBOUR: 'it returns false'. Refute it at one input. -/
def lawS1331AExactWrong : ChangeSpec := { name := "lawS1331AExact", fn := fun _ => fun
  | [d1, d2] => { results := [.lit (.bool false)], args := [d1, d2] }
  | _ => none }
def LawS1331AExactWrongFalsely : Prop := lawS1331AExactRow.holds Yba.pinned (OpenSpec.ofChange lawS1331AExactWrong)

/-- 'cofferdam.LawS1331AYear': WHATEVER THE INPUT: true; the input reads as it did. -/
def lawS1331AYearSpec : ChangeSpec := { name := "lawS1331AYear", fn := fun _ => fun
  | [d] => { results := [.lit (.bool true)], args := [d] }
  | _ => none }
def lawS1331AYearRow : OpenClaim := { program := "ybulkaans", sum := "ca55b7455c90a879cde902a72f986b1fd206c867d0e8ffd685df70bbab9ec699", func := "example.com/cofferdam/cofferdam.LawS1331AYear", spec := "lawS1331AYear", apart := false }
def LawS1331AYearSaid : Prop := lawS1331AYearRow.holds Yba.pinned (OpenSpec.ofChange lawS1331AYearSpec)

/-- ITS FALSE NEIGHBOUR: 'it returns false'. Refute it at one input. -/
def lawS1331AYearWrong : ChangeSpec := { name := "lawS1331AYear", fn := fun _ => fun
  | [d] => { results := [.lit (.bool false)], args := [d] }
  | _ => none }
def LawS1331AYearWrongFalsely : Prop := lawS1331AYearRow.holds Yba.pinned (OpenSpec.ofChange lawS1331AYearWrong)

end Rows
end Go.Proofs.Ybulkaans
