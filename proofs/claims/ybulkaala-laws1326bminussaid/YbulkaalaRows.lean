/-
  No cell of these rows narrows 'for every input' (looked for: loops, veiled, ifaces, maps, wideKeys, modest, calm, conditions, laid).
  DERIVED. THE GIVEN ROWS OF THIS SEAT. 5 by the template 'for every input the law returns true; each argument reads behind the call as it read before'; 0 by the template 'total and deterministic' (their statements: YbulkaalaTotals.lean).
  GIVEN WITH THE SEED: the statements are not yours to turn. If you find one false, say at which input.
  Laid BY PROGRAM, IN A SANDBOX (cutbox-rows.mjs): the forced cells as the released guide's own fill.sh prints them over the translation 0645b0d69d197a00… (all of the seat's roots in one cut). By AI agents, Wed Nov 11 2026. No macro, syntax, notation, axiom, sorry.
-/
import Derived.Test.YbulkaalaChecked
import GoSem.Claim
import GoSem.ClaimJoined
import GoSem.ClaimMapViews
import Derived.JoinedTies
import Derived.KernelRfl
namespace Go.Proofs.Ybulkaala
/- THE CELL 'sum', in the pinned program and in every row, IS THE sha256 OF THE DUMP (.gsa) THAT YbulkaalaProg.lean LOADS. Nothing in Lean hashes anything: it is a label: what it is worth is what the hold of that sum in a sandbox is worth. -/
noncomputable def Yba.pinned : Pinned := { name := "ybulkaala", sum := "0645b0d69d197a00510a16d02fb1bd78d6b2dba0f1331e0f1db2fe17ba6f7180", checked := Yba.checked }
namespace Rows
def none {H : Type} : Left H := { results := [], args := [] }

/-- 'eval.LawS1326AExact': WHATEVER THE INPUT: true; the input reads as it did. -/
def lawS1326AExactSpec : ChangeSpec := { name := "lawS1326AExact", fn := fun _ => fun
  | [d1, d2, d3, d4, d5, d6] => { results := [.lit (.bool true)], args := [d1, d2, d3, d4, d5, d6] }
  | _ => none }
def lawS1326AExactRow : OpenClaim := { program := "ybulkaala", sum := "0645b0d69d197a00510a16d02fb1bd78d6b2dba0f1331e0f1db2fe17ba6f7180", func := "example.com/latticework/latticework/internal/eval.LawS1326AExact", spec := "lawS1326AExact", plainKeys := false, apart := false }
def LawS1326AExactSaid : Prop := lawS1326AExactRow.holds Yba.pinned (OpenSpec.ofChange lawS1326AExactSpec)

/-- ITS FALSE NEIGHBOUR: 'it returns false'. Refute it at one input. -/
def lawS1326AExactWrong : ChangeSpec := { name := "lawS1326AExact", fn := fun _ => fun
  | [d1, d2, d3, d4, d5, d6] => { results := [.lit (.bool false)], args := [d1, d2, d3, d4, d5, d6] }
  | _ => none }
def LawS1326AExactWrongFalsely : Prop := lawS1326AExactRow.holds Yba.pinned (OpenSpec.ofChange lawS1326AExactWrong)

/-- 'eval.LawS1326AIdempotent': WHATEVER THE INPUT: true; the input reads as it did. -/
def lawS1326AIdempotentSpec : ChangeSpec := { name := "lawS1326AIdempotent", fn := fun _ => fun
  | [d1, d2, d3, d4, d5, d6] => { results := [.lit (.bool true)], args := [d1, d2, d3, d4, d5, d6] }
  | _ => none }
def lawS1326AIdempotentRow : OpenClaim := { program := "ybulkaala", sum := "0645b0d69d197a00510a16d02fb1bd78d6b2dba0f1331e0f1db2fe17ba6f7180", func := "example.com/latticework/latticework/internal/eval.LawS1326AIdempotent", spec := "lawS1326AIdempotent", plainKeys := false, apart := false }
def LawS1326AIdempotentSaid : Prop := lawS1326AIdempotentRow.holds Yba.pinned (OpenSpec.ofChange lawS1326AIdempotentSpec)

/-- ITS FALSE NEIGHBOUR: 'it returns false'. Refute it at one input. -/
def lawS1326AIdempotentWrong : ChangeSpec := { name := "lawS1326AIdempotent", fn := fun _ => fun
  | [d1, d2, d3, d4, d5, d6] => { results := [.lit (.bool false)], args := [d1, d2, d3, d4, d5, d6] }
  | _ => none }
def LawS1326AIdempotentWrongFalsely : Prop := lawS1326AIdempotentRow.holds Yba.pinned (OpenSpec.ofChange lawS1326AIdempotentWrong)

/-- 'eval.LawS1326BMinus': WHATEVER THE INPUT: true; the input reads as it did. -/
def lawS1326BMinusSpec : ChangeSpec := { name := "lawS1326BMinus", fn := fun _ => fun
  | [d1, d2] => { results := [.lit (.bool true)], args := [d1, d2] }
  | _ => none }
def lawS1326BMinusRow : OpenClaim := { program := "ybulkaala", sum := "0645b0d69d197a00510a16d02fb1bd78d6b2dba0f1331e0f1db2fe17ba6f7180", func := "example.com/latticework/latticework/internal/eval.LawS1326BMinus", spec := "lawS1326BMinus", inPlace := ["weak.runtime_makeStrongFromWeak", "internal/abi.Escape[*example.com/latticework/latticework/internal/eval.slots]", "weak.runtime_registerWeakPointer", "runtime.KeepAlive"], unfollowed := true, recurses := true, plainKeys := false, apart := false }
def LawS1326BMinusSaid : Prop := lawS1326BMinusRow.holds Yba.pinned (OpenSpec.ofChange lawS1326BMinusSpec)

/-- ITS FALSE NEIGHBOUR: 'it returns false'. Refute it at one input. -/
def lawS1326BMinusWrong : ChangeSpec := { name := "lawS1326BMinus", fn := fun _ => fun
  | [d1, d2] => { results := [.lit (.bool false)], args := [d1, d2] }
  | _ => none }
def LawS1326BMinusWrongFalsely : Prop := lawS1326BMinusRow.holds Yba.pinned (OpenSpec.ofChange lawS1326BMinusWrong)

/-- 'eval.LawS1326CAlreadyEndless': WHATEVER THE INPUT: true; the input reads as it did. -/
def lawS1326CAlreadyEndlessSpec : ChangeSpec := { name := "lawS1326CAlreadyEndless", fn := fun _ => fun
  | [d1, d2] => { results := [.lit (.bool true)], args := [d1, d2] }
  | _ => none }
def lawS1326CAlreadyEndlessRow : OpenClaim := { program := "ybulkaala", sum := "0645b0d69d197a00510a16d02fb1bd78d6b2dba0f1331e0f1db2fe17ba6f7180", func := "example.com/latticework/latticework/internal/eval.LawS1326CAlreadyEndless", spec := "lawS1326CAlreadyEndless", unfollowed := true, recurses := true, plainKeys := false, apart := false }
def LawS1326CAlreadyEndlessSaid : Prop := lawS1326CAlreadyEndlessRow.holds Yba.pinned (OpenSpec.ofChange lawS1326CAlreadyEndlessSpec)

/-- ITS FALSE NEIGHBOUR: 'it returns false'. Refute it at one input. -/
def lawS1326CAlreadyEndlessWrong : ChangeSpec := { name := "lawS1326CAlreadyEndless", fn := fun _ => fun
  | [d1, d2] => { results := [.lit (.bool false)], args := [d1, d2] }
  | _ => none }
def LawS1326CAlreadyEndlessWrongFalsely : Prop := lawS1326CAlreadyEndlessRow.holds Yba.pinned (OpenSpec.ofChange lawS1326CAlreadyEndlessWrong)

/-- 'eval.LawS1326CTooDeep': WHATEVER THE INPUT: true; the input reads as it did. -/
def lawS1326CTooDeepSpec : ChangeSpec := { name := "lawS1326CTooDeep", fn := fun _ => fun
  | [d1, d2, d3] => { results := [.lit (.bool true)], args := [d1, d2, d3] }
  | _ => none }
def lawS1326CTooDeepRow : OpenClaim := { program := "ybulkaala", sum := "0645b0d69d197a00510a16d02fb1bd78d6b2dba0f1331e0f1db2fe17ba6f7180", func := "example.com/latticework/latticework/internal/eval.LawS1326CTooDeep", spec := "lawS1326CTooDeep", unfollowed := true, recurses := true, plainKeys := false, apart := false }
def LawS1326CTooDeepSaid : Prop := lawS1326CTooDeepRow.holds Yba.pinned (OpenSpec.ofChange lawS1326CTooDeepSpec)

/-- ITS FALSE NEIGHBOUR: 'it returns false'. Refute it at one input. -/
def lawS1326CTooDeepWrong : ChangeSpec := { name := "lawS1326CTooDeep", fn := fun _ => fun
  | [d1, d2, d3] => { results := [.lit (.bool false)], args := [d1, d2, d3] }
  | _ => none }
def LawS1326CTooDeepWrongFalsely : Prop := lawS1326CTooDeepRow.holds Yba.pinned (OpenSpec.ofChange lawS1326CTooDeepWrong)

end Rows
end Go.Proofs.Ybulkaala
