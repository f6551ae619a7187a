/-
  BMinus, 3: (*slots).leaving and (*slots).minus at a list of one slot.
-/
import Derived.Test.YbulkaalaB2
namespace Go.Proofs.Ybulkaala.B
open Go.RowKit
set_option linter.unusedVariables false
set_option linter.unusedSimpArgs false

theorem nilEq134 (a : Addr) (w : World) : (binOp .eql 134 (.pointer none) (.pointer (some a))).run Yba.prog w = .ok (.bool false) w := by kernel_rfl
theorem nilEq132 (a : Addr) (w : World) : (binOp .eql 132 (.pointer none) (.pointer (some a))).run Yba.prog w = .ok (.bool false) w := by kernel_rfl
theorem nilNe132 (a : Addr) (w : World) : (binOp .neq 132 (.pointer none) (.pointer (some a))).run Yba.prog w = .ok (.bool true) w := by kernel_rfl
theorem nilEq120 (a : Addr) (w : World) : (binOp .eql 120 (.pointer none) (.pointer (some a))).run Yba.prog w = .ok (.bool false) w := by kernel_rfl
theorem info140 : (Yba.prog.info? 140).map (fun i => decide (i.size ≠ 0)) = some true := by kernel_rfl
theorem info142 : (Yba.prog.info? 142).map (fun i => decide (i.size ≠ 0)) = some true := by kernel_rfl
theorem info128 : (Yba.prog.info? 128).map (fun i => decide (i.size ≠ 0)) = some true := by kernel_rfl
theorem same134 (a : Addr) (w : World) : (binOp .eql 134 (.pointer (some a)) (.pointer (some a))).run Yba.prog w = .ok (.bool true) w := by
  obtain ⟨i, hi, _⟩ := Option.map_eq_some_iff.1 info140
  exact run_eql_ptr_same w a Yba.underlying134 hi
theorem same132 (a : Addr) (w : World) : (binOp .eql 132 (.pointer (some a)) (.pointer (some a))).run Yba.prog w = .ok (.bool true) w := by
  obtain ⟨i, hi, _⟩ := Option.map_eq_some_iff.1 info142
  exact run_eql_ptr_same w a Yba.underlying132 hi
theorem eql132 {g h : Nat} {cg ch : Array Value} {tg th : TypeId} (w : World) (hg : w.heap[g]? = some (.cells cg tg (0, 0))) (hh : w.heap[h]? = some (.cells ch th (0, 0))) :
    (binOp .eql 132 (.pointer (some ⟨g, 0, none⟩)) (.pointer (some ⟨h, 0, none⟩))).run Yba.prog w = .ok (.bool (decide (g = h))) w := by
  obtain ⟨i, hi, hsz⟩ := Option.map_eq_some_iff.1 info142
  have h1 := eqlPtr w Yba.underlying132 hi (by simpa using hsz) hg hh
  simp only [binOp]
  simp [Op.equal, Op.maxDepth, h1 9999]
theorem eql120 {g h : Nat} {cg ch : Array Value} {tg th : TypeId} (w : World) (hg : w.heap[g]? = some (.cells cg tg (0, 0))) (hh : w.heap[h]? = some (.cells ch th (0, 0))) :
    (binOp .eql 120 (.pointer (some ⟨g, 0, none⟩)) (.pointer (some ⟨h, 0, none⟩))).run Yba.prog w = .ok (.bool (decide (g = h))) w := by
  obtain ⟨i, hi, hsz⟩ := Option.map_eq_some_iff.1 info128
  have h1 := eqlPtr w Yba.underlying120 hi (by simpa using hsz) hg hh
  simp only [binOp]
  simp [Op.equal, Op.maxDepth, h1 9999]

/-- the buffer of 'leaving', zero -/
def buf16 : Array Value := #[.pointer none, .int .i64 0, .pointer none, .int .i64 0, .pointer none, .int .i64 0, .pointer none, .int .i64 0, .pointer none, .int .i64 0, .pointer none, .int .i64 0, .pointer none, .int .i64 0, .pointer none, .int .i64 0]

theorem run_none (a : Option Addr) (c : Nat) (w : World) : Calls Yba.prog 25 #[.slice a 0 c, .pointer none] w fun e w' => e = .returned (.pointer none) ∧ w' = w := by
  go_enter Yba.func25, Yba.ntmps25
  go_wp2
  go_ret
  exact ⟨rfl, rfl⟩

theorem gb_new {a b : World} {r : Option Nat} (h : a.grownBy b r) {k : Nat} (hk : a.heap.size ≤ k) (o : Nat) (v : Value) : a.grownBy (b.setCell ⟨k, o, none⟩ v) r :=
  ⟨h.os, h.tape, h.output, by simpa [World.setCell] using h.size, fun i hi hn => (Below.heap_setCell _ _ _ _ (by simp; omega)).trans (h.block i hi hn)⟩

theorem Rel.alloc {B j bx : Nat} {l : List (Nat × Nat)} {w : World} {v : Option Addr} (hR : Rel B j bx l w w l v) (o : Obj) : Rel B j bx l (w.alloc o) (w.alloc o) l v := by
  obtain ⟨r1, r3, r4, r5, r6, r7, r8⟩ := hR
  exact ⟨(Below.heap_alloc _ _ _ (lt_of_block r1)).trans r1, SLst.kept (fun e he => Below.heap_alloc _ _ _ (SLst.lt r3 e he).2.2) r3, r4, r5, r6, Groups.kept (fun i hi => Below.heap_alloc _ _ _ (r7.lt i hi)) r7, World.grownBy.refl _ _⟩

set_option maxRecDepth 100000 in
set_option maxHeartbeats 2000000 in
theorem leaving_drop (B j sb bx : Nat) (l : List (Nat × Nat)) (w : World) (v : Option Addr) (c : Int) (hbx : B + 10 < bx) (hj : j < 9) (hR : Rel B j bx l w w l v) (hsb : w.heap[sb]? = some (slotObj B j none c)) (hne : sb ≠ bx) (hm : decide (j ∈ codes l) = true) :
    Calls Yba.prog 18 #[.pointer (some ⟨sb, 0, none⟩), .func (.func 19) #[] #[.pointer (some ⟨bx, 0, none⟩)]] w fun e w' => e = .returned (.pointer none) ∧ w.grownBy w' (some bx) := by
  obtain ⟨x0, x1, x2, x6⟩ := slot_cells hsb
  have hsl := lt_of_block hsb
  have hbl := lt_of_block hR.box
  have hnil := nilEq134
  go_enter Yba.func18, Yba.ntmps18
  go_wp2
  refine wp_loop_rounds 2 ?_
  rw [rounds_succ]
  go_wp2_with fail
  refine (clo_any B j bx l _ v hbx hj (hR.alloc _)).mono ?_
  rintro e w1 ⟨m, rfl, hg⟩
  rw [hm]
  have hsb1 : w1.heap[sb]? = some (slotObj B j none c) := by rw [hg.block _ (by simp; omega) (by simpa using hne), Below.heap_alloc _ _ _ hsl]; exact hsb
  have hgw : w.grownBy w1 (some bx) := gb_trans (World.grownBy_alloc _ _ _) hg
  obtain ⟨y0, y1, y2, y6⟩ := slot_cells hsb1
  clear hg hR hsb hsb1
  cases m
  · go_wp2_with fail
    go_quiet (fail)
    go_wp2_with fail
    refine (run_none _ _ _).mono ?_
    rintro e w2 ⟨rfl, rfl⟩
    go_wp2_with fail
    go_ret
    exact ⟨rfl, gb_drewN hgw _⟩
  · go_wp2_with fail
    go_quiet (fail)
    go_wp2_with fail
    rw [rounds_succ]
    go_wp2_with fail
    refine (run_none _ _ _).mono ?_
    rintro e w2 ⟨rfl, rfl⟩
    go_wp2_with fail
    go_ret
    exact ⟨rfl, gb_drewN hgw _⟩

set_option maxRecDepth 100000 in
set_option maxHeartbeats 2000000 in
theorem leaving_keep (B j sb bx : Nat) (l : List (Nat × Nat)) (w : World) (v : Option Addr) (c : Int) (hbx : B + 10 < bx) (hj : j < 9) (hR : Rel B j bx l w w l v) (hsb : w.heap[sb]? = some (slotObj B j none c)) (hne : sb ≠ bx) (hm : decide (j ∈ codes l) = false) :
    Calls Yba.prog 18 #[.pointer (some ⟨sb, 0, none⟩), .func (.func 19) #[] #[.pointer (some ⟨bx, 0, none⟩)]] w fun e w' => e = .returned (.pointer (some ⟨sb, 0, none⟩)) ∧ w.grownBy w' (some bx) := by
  obtain ⟨x0, x1, x2, x6⟩ := slot_cells hsb
  have hsl := lt_of_block hsb
  have hbl := lt_of_block hR.box
  have hsame := same134
  go_enter Yba.func18, Yba.ntmps18
  go_wp2
  refine wp_loop_rounds 2 ?_
  rw [rounds_succ]
  go_wp2_with fail
  refine (clo_any B j bx l _ v hbx hj (hR.alloc _)).mono ?_
  rintro e w1 ⟨m, rfl, hg⟩
  rw [hm]
  have hsb1 : w1.heap[sb]? = some (slotObj B j none c) := by rw [hg.block _ (by simp; omega) (by simpa using hne), Below.heap_alloc _ _ _ hsl]; exact hsb
  have hbf1 : w1.heap[w.heap.size]? = some (.cells buf16 180 (0, 0)) := by rw [hg.block _ (by simp) (by simp; omega)]; exact heap_alloc_new _ _
  have hgw : w.grownBy w1 (some bx) := gb_trans (World.grownBy_alloc _ _ _) hg
  obtain ⟨y0, y1, y2, y6⟩ := slot_cells hsb1
  have hz := lt_of_block hbf1
  have hsl1 := lt_of_block hsb1
  have hne2 : sb ≠ w.heap.size := by omega
  have b0 : w1.cell? ⟨w.heap.size, 0, none⟩ = some (.pointer none) := cell_at hbf1 rfl
  have b1 : w1.cell? ⟨w.heap.size, 1, none⟩ = some (.int .i64 0) := cell_at hbf1 rfl
  have f0 : w1.frozen? ⟨w.heap.size, 0, none⟩ = false := frozen_at hbf1
  have f1 : w1.frozen? ⟨w.heap.size, 1, none⟩ = false := frozen_at hbf1
  clear hg hR hsb hsb1 hbf1
  cases m
  · go_wp2_with fail
    go_ret
    exact ⟨rfl, gb_alloc (gb_new (gb_new hgw (Nat.le_refl _) _ _) (Nat.le_refl _) _ _) _⟩
  · go_wp2_with fail
    rw [rounds_succ]
    go_wp2_with fail
    go_ret
    exact ⟨rfl, gb_alloc (gb_new (gb_new hgw (Nat.le_refl _) _ _) (Nat.le_refl _) _ _) _⟩

/-- (*slots).minus at a list of one slot: the slot's node where the code is not in l, nil where it is. -/
def left (j : Nat) (l : List (Nat × Nat)) (sb : Nat) : Option Addr := if j ∈ codes l then none else some ⟨sb, 0, none⟩

set_option maxRecDepth 100000 in
set_option maxHeartbeats 2000000 in
theorem sminus_any (B j sb : Nat) (l : List (Nat × Nat)) (w : World) (v : Option Addr) (c : Int) (hB : B + 10 < w.heap.size) (hj : j < 9) (hl : SLst B w v l) (hs : (codes l).Pairwise (· < ·)) (hG : Groups B w) (hsb : w.heap[sb]? = some (slotObj B j none c)) :
    Calls Yba.prog 15 #[.pointer (some ⟨sb, 0, none⟩), .pointer v] w fun e w' => e = .returned (.pointer (left j l sb)) ∧ Below w.heap.size w w' := by
  have hsl := lt_of_block hsb
  have hR : Rel B j w.heap.size l (w.alloc (.cells #[.pointer v] 134)) (w.alloc (.cells #[.pointer v] 134)) l v :=
    ⟨heap_alloc_new _ _, SLst.kept (fun e he => Below.heap_alloc _ _ _ (SLst.lt hl e he).2.2) hl, fun e he => Nat.ne_of_lt (SLst.lt hl e he).2.2, Iff.rfl, hs, Groups.kept (fun i hi => Below.heap_alloc _ _ _ (hG.lt i hi)) hG, World.grownBy.refl _ _⟩
  have hsb1 : (w.alloc (.cells #[.pointer v] 134)).heap[sb]? = some (slotObj B j none c) := (Below.heap_alloc _ _ _ hsl).trans hsb
  have fin : ∀ w', (w.alloc (.cells #[.pointer v] 134)).grownBy w' (some w.heap.size) → Below w.heap.size w w' := fun w' hg =>
    ⟨hg.os, hg.tape, hg.output, by have := hg.size; simp at this; omega, fun k hk => (hg.block k (by simp; omega) (by simp; omega)).trans (Below.heap_alloc _ _ _ hk)⟩
  by_cases hm : j ∈ codes l
  · have e : left j l sb = none := by simp [left, hm]
    rw [e]
    go_enter Yba.func15, Yba.ntmps15
    go_wp2_with fail
    refine (leaving_drop B j sb w.heap.size l _ v c hB hj hR hsb1 (by omega) (by simpa using hm)).mono ?_
    rintro e w1 ⟨rfl, hg⟩
    go_wp2_with fail
    go_ret
    exact ⟨rfl, fin _ hg⟩
  · have e : left j l sb = some ⟨sb, 0, none⟩ := by simp [left, hm]
    rw [e]
    go_enter Yba.func15, Yba.ntmps15
    go_wp2_with fail
    refine (leaving_keep B j sb w.heap.size l _ v c hB hj hR hsb1 (by omega) (by simpa using hm)).mono ?_
    rintro e w1 ⟨rfl, hg⟩
    go_wp2_with fail
    go_ret
    exact ⟨rfl, fin _ hg⟩
end Go.Proofs.Ybulkaala.B
