/-
  THE WALK OF LawS1328AParts: the table 'kindParts' given as cells; the four kinds and the supremum flag decided ahead.
-/
import Derived.Test.YbulkaamcDoorProg
import Derived.WalkKit
import Derived.WalkSpells
import Derived.WalkLawsBesides
import Derived.RowKit3
import Derived.Below
import Derived.Handy
namespace Go.Proofs.YbulkaamcDoor
open Go.RowKit
set_option linter.unusedVariables false
set_option linter.unusedSimpArgs false

set_option maxHeartbeats 2000000 in
theorem parts_any (sel mode : Int) (sup : Bool) (w : World) (h0 : 0 ≤ sel) (h1 : sel ≤ 255) (hz : 0 < w.heap.size)
    (c1 : w.cell? ⟨0, 1, none⟩ = some (.int .u8 3)) (c2 : w.cell? ⟨0, 2, none⟩ = some (.int .u8 1)) (c3 : w.cell? ⟨0, 3, none⟩ = some (.int .u8 2)) (c4 : w.cell? ⟨0, 4, none⟩ = some (.int .u8 4)) :
    Calls Ybad.prog 3 #[.int .u8 sel, .int .u8 mode, .bool sup] w fun e w' => e = .returned (.bool true) ∧ Below w.heap.size w w' := by
  have hs : sel % 4 = 0 ∨ sel % 4 = 1 ∨ sel % 4 = 2 ∨ sel % 4 = 3 := by omega
  rcases hs with hs | hs | hs | hs <;> cases sup
  all_goals
    go_enter Ybad.func3, Ybad.ntmps3
    go_wp2
    go_ret
    exact ⟨rfl, by go_grown⟩
end Go.Proofs.YbulkaamcDoor
