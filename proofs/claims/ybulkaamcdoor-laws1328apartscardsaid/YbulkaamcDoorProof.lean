/-
  THE TIED CARD OF LawS1328AParts: the row proved (the table read off the row's own condition), the card closed by the builder.
-/
import Derived.Test.YbulkaamcDoorTie
import Derived.Test.YbulkaamcDoorCards
import Derived.Test.YbulkaamcDoorWalk
import Derived.ProofKit
import Derived.LaidMore
import Derived.OpenShut
import Derived.Stop.Joined
import Derived.ChangeVars
import Derived.Lib.LaidTab
import Derived.WalkSmall
namespace Go.Proofs.YbulkaamcDoor
open Go.ChangeShapes Go.WideShapes Go.ChangeAt Go.RowKit
set_option linter.unusedVariables false

theorem own : ownKnob Ybad.prog.godebug = none := by kernel_rfl
/-- the one listed variable's name, off the given specification -/
def nm : String := match Rows.lawS1328APartsSpec.vars with | [x] => x | _ => ""
def lst : List (String × DataW Unit) := Rows.lawS1328APartsRow.laid
theorem gN : Ybad.prog.globalNamed nm = some 0 := by kernel_rfl
theorem gT : (Ybad.prog.globals[0]?).map (·.type) = some 31 := by kernel_rfl
theorem cells31 : Ybad.prog.cellsOf 31 = 5 := by kernel_rfl
theorem cells5 : Ybad.prog.cellsOf 5 = 1 := by kernel_rfl

def tab : List Int := [0, 3, 1, 2, 4]
def cs5 : Array Value := #[.int .u8 0, .int .u8 3, .int .u8 1, .int .u8 2, .int .u8 4]

/-- The door's own heap meets the condition. -/
theorem door_met (os : Os) (args : Array Value) : laidMetH Ybad.prog lst ((World.doorLaid Ybad.prog 14 os).forCall (fun _ _ => 0) ⟨#[], args, []⟩).memory :=
  laidMetH_of_parts3 (fuel := 8) (laidMet_of_run' 8 (by kernel_rfl) (by kernel_rfl)) (by kernel_rfl) (by kernel_rfl)

/-- WHAT THE CONDITION GIVES: the variable holds the table. -/
theorem of_laid {W : World} (h : laidMetH Ybad.prog lst W) : W.var? Ybad.prog nm = some cs5 := by
  rw [MakeChecks.laidMetH_plain _ _ _ (by kernel_rfl)] at h
  have h' : laidMet Ybad.prog ((nm, Lib.tabData .u8 tab) :: []) W := h
  exact Lib.tabIs_of_head gN gT Ybad.underlying31 Ybad.underlying5 cells5 cells31 h'

theorem reads_table {H : Type} (enc : TypeId × Value → H) (W : World) (sp : Nat → Bool) : DataW.trod enc Ybad.prog W 0 sp true 3 31 cs5.toList = some (Lib.tabData .u8 tab, []) := by kernel_rfl

set_option maxRecDepth 100000 in
theorem lifted (os : Os) (started : os.Started) (H : Type) (enc : TypeId × Value → H) :
    ReturnsInHanded {} Ybad.checked os 3 .any (fun w args => (Rows.lawS1328APartsSpec.pre enc Ybad.prog Ybad.f3 [] false w args ∧ laidMetH Ybad.prog lst w) ∧ sizedMet enc Ybad.prog Ybad.f3 (OpenSpec.ofChange Rows.lawS1328APartsSpec) false w args)
      (Rows.lawS1328APartsSpec.post enc Ybad.prog Ybad.f3 false true false false) := by
  refine returnsInHanded_of_change_and (C := Ybad.checked) (X := fun w _ => laidMetH Ybad.prog lst w) (fun _ _ _ hh h => h.of_heap hh) own started (by kernel_rfl) Ybad.func3
    (ChangeSpec.witness_shaped (enc := enc) (C := Ybad.checked) (os := os) (X := fun w _ => laidMetH Ybad.prog lst w) false (World.doorLaid Ybad.prog 14 os) #[.int .u8 0, .int .u8 0, .bool false] 8 rfl (World.shaped_of_RefB (by kernel_rfl) (by kernel_rfl)) (by kernel_rfl) (by kernel_rfl) (by kernel_rfl) (door_met os _)) ?_
  intro W base args ds gs before hval0 hW _ _ hL _
  have hval : ∀ (j : Nat) t v, Ybad.f3.params[j]? = some t → args[j]? = some v → Value.okWide Ybad.prog W .any base t v := hval0
  have hW' := hW
  obtain ⟨p, q, hA0, hV0, rfl, hfz, hnd⟩ := hW
  have hA : DataW.TrodAll enc Ybad.prog W 0 (fun _ => true) true Ybad.f3.params.toList args.toList ds p := hA0
  have hV : DataW.TrodVars enc Ybad.prog W (fun _ => true) [nm] gs q := hV0
  rw [Ybad.params3] at hA hval
  obtain ⟨v0, vs0, d0, ds0, p0, q0, hargs, rfl, rfl, h0, r0⟩ := trodAll_cons hA
  obtain ⟨v1, vs1, d1, ds1, p1, q1, rfl, rfl, rfl, h1, r1⟩ := trodAll_cons r0
  obtain ⟨v2, vs2, d2, ds2, p2, q2, rfl, rfl, rfl, h2, r2⟩ := trodAll_cons r1
  obtain ⟨rfl, rfl, rfl⟩ := trodAll_nil r2
  obtain rfl : args = #[v0, v1, v2] := by cases args; simp_all
  obtain ⟨a0, rfl, rfl, rfl, w0⟩ := open_int Ybad.underlying5 (hval 0 5 v0 rfl rfl) h0
  obtain ⟨a1, rfl, rfl, rfl, w1⟩ := open_int Ybad.underlying5 (hval 1 5 v1 rfl rfl) h1
  obtain ⟨a2, rfl, rfl, rfl⟩ := open_bool Ybad.underlying4 (hval 2 4 v2 rfl rfl) h2
  obtain ⟨g, t, cs, fuel, d, p', rfl, hg, ht, hvar, hd, rfl⟩ := trodVars_one hV
  obtain rfl := Option.some.inj (gN.symm.trans hg)
  obtain rfl := Option.some.inj (gT.symm.trans ht)
  obtain rfl : cs = cs5 := Option.some.inj (hvar.symm.trans (of_laid hL))
  obtain ⟨rfl, rfl⟩ := DataW.Trod.unique (v := .agg cs5) ⟨fuel, hd⟩ ⟨3, reads_table enc W _⟩
  clear hA0 hV0 hval0
  have hz : 0 < W.heap.size := World.block_lt_of_cell? W ⟨0, 1, none⟩ (World.var?_cell hg hvar 1)
  refine (parts_any a0 a1 a2 W (bounds_u8 w0).1 (bounds_u8 w0).2 hz (World.var?_cell hg hvar 1) (World.var?_cell hg hvar 2) (World.var?_cell hg hvar 3) (World.var?_cell hg hvar 4)).mono fun e W' ⟨he, hb⟩ => ?_
  subst he
  have hvar' : W'.var? Ybad.prog nm = some cs5 := by
    exact var?_below hb hg hz hvar
  have hvars : ∀ sp : Nat → Bool, DataW.TrodVars enc Ybad.prog W' sp [nm] [Lib.tabData .u8 tab] (MemPlace.row ⟨0, 0, none⟩ cs5.size ++ [] ++ []) := fun sp =>
    ⟨0, 31, cs5, 3, [], [], hg, ht, hvar', reads_table enc W' _, rfl, rfl⟩
  exact ⟨_, rfl, _, _, _, [], [], (MemPlace.row ⟨0, 0, none⟩ cs5.size ++ [] ++ []), hW', trodAll_mk1 (shut_bool Ybad.underlying4 _), (trodAll_cons_mk (shut_int Ybad.underlying5 w0) (trodAll_cons_mk (shut_int Ybad.underlying5 w1) (trodAll_cons_mk (shut_bool Ybad.underlying4 _) trodAll_mk0))), hvars _, hb.frame _, fun h => by cases h⟩

theorem row_holds : Rows.LawS1328APartsSaid :=
  OpenClaim.holds_of_wide 3 Ybad.f3 rfl rfl rfl rfl rfl rfl rfl ⟨rfl, rfl, rfl, rfl, rfl⟩ rfl rfl rfl rfl rfl (by kernel_rfl) Ybad.func3 (by kernel_rfl)
    (of_decide_eq_true (by kernel_rfl)) (by unfold Func.isWrapper; first | (rw [if_pos (by decide +kernel)]; kernel_rfl) | (rw [if_neg (by decide +kernel)]; exact ⟨rfl, rfl⟩))
    (fun os started H enc _ => lifted os started H enc)

/-- THE TIED CARD -/
theorem card_holds : Rows.LawS1328APartsCardSaid :=
  Claim7.holds_tied_plain_at .later [] [.wider] true Rows.lawS1328APartsCard.stood.harness false
    row_holds (fun _ h => by cases h) (by kernel_rfl) (fun _ h => by cases h) lawS1328AParts_row_tie rfl ⟨rfl, rfl⟩ (by kernel_rfl) rfl
    (fun f fn hf hfn => by
      obtain rfl : f = 3 := Option.some.inj ((show Ybad.prog.funcNamed Rows.lawS1328APartsRow.func = some 3 by kernel_rfl).symm.trans hf) |>.symm
      obtain rfl : fn = Ybad.f3 := (Option.some.inj (Ybad.func3.symm.trans hfn)).symm
      exact ⟨by kernel_rfl, fun j t ht => by
        rw [Ybad.params3] at ht
        have hm : t ∈ [5, 5, 4] := by simpa using Array.mem_of_getElem? ht
        have hall : ([5, 5, 4].all fun u => !Ybad.prog.wantsStandIn u) = true := by kernel_rfl
        exact (show Ybad.prog.wantsStandIn t = false by simpa using List.all_eq_true.1 hall t hm)⟩)
    (by kernel_rfl)
#print axioms card_holds
end Go.Proofs.YbulkaamcDoor
