/-
  THE LAW LawS1326CTooDeep over the walks of YbulkaalaWalkC.
-/
import Derived.Test.YbulkaalaWalkC
import Derived.OpenShut
namespace Go.Proofs.Ybulkaala.C
open Go.RowKit
set_option linter.unusedVariables false
set_option linter.unusedSimpArgs false

theorem wpList_build0 {P : Program} {ops : Array Oper} {rest : List Oper} {o : Oper} {a : Act} {w : World} {Q : Exit → Act → World → Prop} (hgd : o.guard = none) (t : TypeId) (ho : o.op = .build t #[])
    (v : Value) (hrun : (Instr.build t #[]).run P w = .ok v w) (h : wpList P ops Q rest (a.put o.dst v) w) : wpList P ops Q (o :: rest) a w :=
  wpList_plain hgd fun _ hK => by
    unfold Oper.wp execOp
    simp only [ho, List.map_toArray, List.map_nil, Sem.run_bind, Sem.run_pure, Result.andThen_ok, hrun]
    exact hK _ _ h
theorem wpList_box0 {P : Program} {ops : Array Oper} {rest : List Oper} {o : Oper} {a : Act} {w : World} {Q : Exit → Act → World → Prop} (hgd : o.guard = none) (t : TypeId) (x : Operand) (ho : o.op = .box t x)
    (v : Value) (hx : a.eval x = v) (v' : Value) (w' : World) (hrun : (Instr.box t v).run P w = .ok v' w') (h : wpList P ops Q rest (a.put o.dst v') w') : wpList P ops Q (o :: rest) a w :=
  wpList_plain hgd fun _ hK => by
    unfold Oper.wp execOp
    simp only [ho, hx, Sem.run_bind, Sem.run_pure, Result.andThen_ok, hrun]
    exact hK _ _ h

/-- the zero 'evaluator', flat -/
def ecs : List Value := [.slice none 0 0, .int .i64 0, .int .i64 0, .int .i64 0, .int .i64 0, .pointer none, .int .i64 0, .int .i64 0, .int .i64 0, .slice none 0 0, .int .i64 0, .int .i64 0, .map none, .map none, .slice none 0 0, .slice none 0 0, .slice none 0 0, .map none, .int .i32 0, .slice none 0 0, .slice none 0 0, .slice none 0 0, .slice none 0 0, .map none, .int .i32 0, .slice none 0 0, .slice none 0 0, .int .i64 0, .int .i64 0, .map none, .map none, .map none, .map none, .map none, .map none, .slice none 0 0, .map none, .map none, .map none, .slice none 0 0, .map none, .map none, .int .u32 0, .map none, .float .f64 0, .float .f64 0, .slice none 0 0, .slice none 0 0, .map none, .int .i32 0, .int .i32 0, .slice none 0 0, .slice none 0 0, .map none, .slice none 0 0, .slice none 0 0, .map none, .map none, .map none, .map none, .map none, .int .i64 0, .int .i64 0, .pointer none, .int .i64 0, .map none, .map none, .int .i64 0, .int .i64 0, .map none, .map none, .map none, .map none, .map none, .map none, .map none, .map none, .map none, .int .i64 0, .int .i64 0, .map none, .map none, .map none, .map none, .int .i64 0, .map none, .pointer none, .map none, .map none, .map none, .map none]
theorem build108 (w : World) : (Instr.build 108 #[]).run Yba.prog w =   .ok (.agg ecs.toArray) w := by kernel_rfl
theorem box108 (w : World) : (Instr.box 108 (.agg ecs.toArray)).run Yba.prog w = .ok (.pointer (some ⟨w.heap.size, 0, none⟩)) (w.alloc (.cells ecs.toArray 108)) := by kernel_rfl
theorem ecsLen : ecs.length = 91 := by kernel_rfl
theorem ecs9 : ecs[9]? = some (.slice none 0 0) := by kernel_rfl
theorem ecs10 : ecs[10]? = some (.int .i64 0) := by kernel_rfl
theorem ecs11 : ecs[11]? = some (.int .i64 0) := by kernel_rfl

set_option maxRecDepth 200000 in
set_option maxHeartbeats 1000000 in
theorem law_any (a b : Int) (f0 : Int) (w : World) (ha : 0 ≤ a) (ha2 : a ≤ 255) (hb : 0 ≤ b) (hb2 : b ≤ 255) (HF : Hid (wrap64 f0 = f0)) :
    Calls Yba.prog 7 #[.int .u8 a, .int .u8 b, .int .i64 f0] w fun e w' => e = .returned (.bool true) ∧ Below w.heap.size w w' := by
  have e9 := ecs9
  have e10 := ecs10
  have e11 := ecs11
  go_enter Yba.func7, Yba.ntmps7
  go_wp2_with (first | (refine wpList_build0 rfl 108 rfl _ (build108 _) ?_) | (refine wpList_box0 rfl 108 _ rfl _ rfl _ _ (box108 _) ?_) | fail)
  obtain ⟨n, hn⟩ : ∃ n : Nat, 10000 + b % 4 = (n : Int) := ⟨(10000 + b % 4).toNat, by omega⟩
  have n1 : 10000 ≤ n := by omega
  have n2 : n ≤ 20000 := by omega
  rw [hn]
  refine (fill_any n f0 _ (by omega) n2 HF).mono ?_
  rintro e w1 ⟨g, cap, rfl, hg1, hg2, hcf, hbel⟩
  have hblk : w1.heap[w.heap.size]? = some (.cells (ecs.set 11 (.int .i64 (-a))).toArray 108 (0, 0)) := by rw [hbel.block _ (by simp)]; exact heap_alloc_new _ _
  have x9 : w1.cell? ⟨w.heap.size, 9, none⟩ = some (.slice none 0 0) := by rw [cell_of_row _ _ _ _ _ _ hblk]; simp [e9]
  have x10 : w1.cell? ⟨w.heap.size, 10, none⟩ = some (.int .i64 0) := by rw [cell_of_row _ _ _ _ _ _ hblk]; simp [e10]
  have x11 : w1.cell? ⟨w.heap.size, 11, none⟩ = some (.int .i64 (-a)) := by rw [cell_of_row _ _ _ _ _ _ hblk]; simp [ecsLen]
  have y9 : w1.frozen? ⟨w.heap.size, 9, none⟩ = false := by simp [World.frozen?, hblk]
  have y10 : w1.frozen? ⟨w.heap.size, 10, none⟩ = false := by simp [World.frozen?, hblk]
  have y11 : w1.frozen? ⟨w.heap.size, 11, none⟩ = false := by simp [World.frozen?, hblk]
  have hb0 : Below w.heap.size w w1 := ((Below.refl _ _).alloc (Nat.le_refl _) _).trans (hbel.mono (by simp))
  have hgB : g ≠ w.heap.size := by simp at hg1; omega
  clear hbel hblk hn hg1 hg2 e9 e10 e11
  go_wp2_with fail
  refine (nest g cap w.heap.size n f0 (-a) 0 _ (by omega) (by omega) (by omega) ?k1 ?k2 ?k3 ?k4 ?k5 ?k6).mono ?_
  case k1 => simp [go_sem, x9]
  case k2 => simp [go_sem, x10]
  case k3 => simp [go_sem, x11]
  case k4 => simp [go_sem, hcf, hgB]
  case k5 => simp [go_sem, y10]
  case k6 => simp [go_sem, y11]
  rintro e w2 ⟨rfl, rfl⟩
  go_wp2_with fail
  go_ret
  exact ⟨rfl, ((hb0.setCell (Nat.le_refl _) _).setCell (Nat.le_refl _) _).setCell (Nat.le_refl _) _⟩

theorem law (a b f0 : Int) (w : World) (w0 : (Lit.int .u8 a).wf = true) (w1 : (Lit.int .u8 b).wf = true) (w2 : (Lit.int .i64 f0).wf = true) :
    Calls Yba.prog 7 #[.int .u8 a, .int .u8 b, .int .i64 f0] w fun e w' => e = .returned (.bool true) ∧ Below w.heap.size w w' := by
  have h0 := bounds_u8 w0
  have h1 := bounds_u8 w1
  have h2 := bounds_i64 w2
  exact law_any a b f0 w h0.1 (by omega) h1.1 (by omega) (show wrap64 f0 = f0 by unfold wrap64; omega)
end Go.Proofs.Ybulkaala.C
