/-
  BMinus, 1: cmp.Compare, cmp.Or, compareGroups, path.order at whatever world.
-/
import Derived.Test.YbulkaalaProg
import Derived.WalkKit
import Derived.WalkSpells
import Derived.WalkLawsBesides
import Derived.RowKit3
import Derived.Below
import Derived.Handy
import Derived.Deep.QuietTactic
import Derived.BigQuiet
import Derived.Deep.RegionHeld3
import Derived.WalkSmall
namespace Go.Proofs.Ybulkaala.B
open Go.RowKit
set_option linter.unusedVariables false
set_option linter.unusedSimpArgs false

def cmp3 (x y : Int) : Int := if x < y then -1 else if y < x then 1 else 0
theorem ret_int {k : IntKind} {a b : Int} (h : a = b) : Ending.returned (.int k a) = .returned (.int k b) := by rw [h]

theorem nan_any (x : Int) (w : World) : Calls Yba.prog 36 #[.int .i64 x] w fun e w' => e = .returned (.bool false) ∧ w' = w := by
  go_enter Yba.func36, Yba.ntmps36
  go_wp2
  go_ret
  exact ⟨by simp, rfl⟩

set_option maxHeartbeats 400000 in
theorem cmp_any (x y : Int) (w : World) : Calls Yba.prog 28 #[.int .i64 x, .int .i64 y] w fun e w' => e = .returned (.int .i64 (cmp3 x y)) ∧ w' = w := by
  go_enter Yba.func28, Yba.ntmps28
  go_wp2_with (first | (go_at_call 36; refine (nan_any _ _).mono ?_; rintro e w' ⟨rfl, rfl⟩))
  all_goals
    go_ret
    exact ⟨ret_int (by unfold cmp3; (repeat' split) <;> omega), rfl⟩

theorem order_nil (w : World) : Calls Yba.prog 14 #[.pointer none] w fun e w' => e = .returned (.int .i64 0) ∧ w' = w := by
  go_enter Yba.func14, Yba.ntmps14
  go_wp2
  go_ret
  exact ⟨rfl, rfl⟩

theorem order_ptr (a : Addr) (n : Int) (w : World) (b : Nat) (h : w.cell? ⟨b, 0, none⟩ = some (.int .i64 n)) : Calls Yba.prog 14 #[.pointer (some ⟨b, 0, none⟩)] w fun e w' => e = .returned (.int .i64 n) ∧ w' = w := by
  go_enter Yba.func14, Yba.ntmps14
  go_wp2
  go_ret
  exact ⟨rfl, rfl⟩

/-- cmp.Or of two -/
def orI (x y : Int) : Int := if x = 0 then y else x

set_option maxHeartbeats 400000 in
theorem or_any (x y : Int) (b : Nat) (w : World) (h0 : w.cell? ⟨b, 0, none⟩ = some (.int .i64 x)) (h1 : w.cell? ⟨b, 1, none⟩ = some (.int .i64 y)) :
    Calls Yba.prog 26 #[.slice (some ⟨b, 0, none⟩) 2 2] w fun e w' => e = .returned (.int .i64 (orI x y)) ∧ w' = w := by
  by_cases hx : (x == 0) = true
  · obtain rfl : x = 0 := by simpa using hx
    clear hx
    by_cases hy : (y == 0) = true
    · obtain rfl : y = 0 := by simpa using hy
      clear hy
      go_enter Yba.func26, Yba.ntmps26
      go_wp2
      go_rounds 3
      go_ret
      exact ⟨ret_int (by simp [orI]), rfl⟩
    · have hy' : (y == 0) = false := by simpa using hy
      clear hy
      go_enter Yba.func26, Yba.ntmps26
      go_wp2
      go_rounds 3
      go_ret
      exact ⟨ret_int (by simp [orI]), rfl⟩
  · have hx' : (x == 0) = false := by simpa using hx
    have hx'' : ¬ x = 0 := by simpa using hx
    clear hx
    go_enter Yba.func26, Yba.ntmps26
    go_wp2
    go_rounds 3
    go_ret
    exact ⟨ret_int (by simp [orI, hx'']), rfl⟩

set_option maxHeartbeats 400000 in
theorem groups_any (g h : Nat) (x y : Int) (w : World) (hg : w.cell? ⟨g, 0, none⟩ = some (.int .i64 x)) (hh : w.cell? ⟨h, 0, none⟩ = some (.int .i64 y)) :
    Calls Yba.prog 27 #[.pointer (some ⟨g, 0, none⟩), .pointer (some ⟨h, 0, none⟩)] w fun e w' => e = .returned (.int .i64 (cmp3 y x)) ∧ ∃ n, w' = w.drewN n := by
  go_enter Yba.func27, Yba.ntmps27
  go_wp2
  go_quiet ((go_at_call 28; exact Calls.quiet_of_same (cmp_any _ _ _)))
  go_wp2
  go_ret
  exact ⟨rfl, nq, rfl⟩

/-- 'compareSlots' on numbers: x, y the groups' ids -/
def cmpS (x n y m : Int) : Int := orI (cmp3 y x) (cmp3 n m)

set_option maxHeartbeats 1000000 in
theorem slots_out (g h : Nat) (x y n m : Int) (w : World) (hg : w.cell? ⟨g, 0, none⟩ = some (.int .i64 x)) (hh : w.cell? ⟨h, 0, none⟩ = some (.int .i64 y)) :
    Calls Yba.prog 20 #[.agg #[.pointer (some ⟨g, 0, none⟩), .int .i64 n], .agg #[.pointer (some ⟨h, 0, none⟩), .int .i64 m]] w fun e w' => e = .returned (.int .i64 (cmpS x n y m)) ∧ ∃ nn, w' = ((((w.alloc (.cells #[.pointer (some ⟨g, 0, none⟩), .int .i64 n] 136)).alloc (.cells #[.pointer (some ⟨h, 0, none⟩), .int .i64 m] 136)).drewN nn).alloc (.cells #[.int .i64 (cmp3 y x), .int .i64 (cmp3 n m)] 3)) := by
  have hgl : g < w.heap.size := World.block_lt_of_cell? w _ hg
  have hhl : h < w.heap.size := World.block_lt_of_cell? w _ hh
  go_enter Yba.func20, Yba.ntmps20
  go_wp2
  go_region_held3 (fun w' => w'.cell? ⟨w.heap.size, 0, none⟩ = some (.pointer (some ⟨g, 0, none⟩)) ∧ w'.cell? ⟨w.heap.size, 1, none⟩ = some (.int .i64 n) ∧ w'.cell? ⟨w.heap.size + 1, 0, none⟩ = some (.pointer (some ⟨h, 0, none⟩)) ∧ w'.cell? ⟨w.heap.size + 1, 1, none⟩ = some (.int .i64 m) ∧ w'.cell? ⟨g, 0, none⟩ = some (.int .i64 x) ∧ w'.cell? ⟨h, 0, none⟩ = some (.int .i64 y)) (go_keep)
    (first | (go_at_call 27; refine (groups_any g h x y _ ?_ ?_).mono ?_; (simp [*]); (simp [*]); rintro e w' ⟨rfl, nn, rfl⟩) | (go_at_call 28; refine (cmp_any _ _ _).mono ?_; rintro e w' ⟨rfl, rfl⟩) | (go_at_call 26; refine (or_any (cmp3 y x) (cmp3 n m) _ _ ?_ ?_).mono ?_; (simp [*, go_sem]); (simp [*, go_sem]); rintro e w' ⟨rfl, rfl⟩))
  all_goals
    go_wp2
    go_ret
    exact ⟨rfl, _, rfl⟩

theorem slots_any (g h : Nat) (x y n m : Int) (w : World) (hg : w.cell? ⟨g, 0, none⟩ = some (.int .i64 x)) (hh : w.cell? ⟨h, 0, none⟩ = some (.int .i64 y)) :
    Calls Yba.prog 20 #[.agg #[.pointer (some ⟨g, 0, none⟩), .int .i64 n], .agg #[.pointer (some ⟨h, 0, none⟩), .int .i64 m]] w fun e w' => e = .returned (.int .i64 (cmpS x n y m)) ∧ Below w.heap.size w w' :=
  (slots_out g h x y n m w hg hh).mono fun e w' ⟨he, nn, hw⟩ => ⟨he, by subst hw; exact (below_drewN (((Below.refl _ _).alloc (Nat.le_refl _) _).alloc (by simp) _) _).alloc (by simp; omega) _⟩

theorem below_of_drew {w w' : World} {B : Nat} (h : Below B w.drew w') : Below B w w' := ⟨h.os, h.tape, h.output, h.size, h.block⟩
theorem below_of_drewN {w w' : World} {B n : Nat} (h : Below B (w.drewN n) w') : Below B w w' := ⟨h.os, h.tape, h.output, h.size, h.block⟩
theorem keepB {w w' : World} (hb : Below w.heap.size w w') {a : Addr} {v : Value} (h : w.cell? a = some v) : w'.cell? a = some v := (hb.cell (World.block_lt_of_cell? w a h)).trans h
end Go.Proofs.Ybulkaala.B
