/-
  THE WALKS OF LawS1328CTable AND LawS1328CBuilt: every test on the road decided ahead of the walk.
-/
import Derived.Test.YbulkaamcProg
import Derived.WalkKit
import Derived.WalkSpells
import Derived.WalkLawsBesides
import Derived.RowKit3
import Derived.Below
import Derived.Handy
namespace Go.Proofs.Ybulkaamc
open Go.RowKit
set_option linter.unusedVariables false
set_option linter.unusedSimpArgs false

/-- 'lockMode.valid', plain -/
def vldB (t k m : Int) : Bool := decide (if t = 0 then 1 ≤ k ∧ k ≤ 4 ∧ (m = 1 ∨ m = 2) else 1 ≤ t ∧ t ≤ 4)
theorem ret_bool {a b : Bool} (h : a = b) : Ending.returned (.bool a) = .returned (.bool b) := by rw [h]

theorem ways (t k m : Int) (ht : 0 ≤ t) (hk : 0 ≤ k) (hm : 0 ≤ m) : (t ≠ 0 ∧ t ≤ 4) ∨ 4 < t ∨ (t = 0 ∧ k = 0) ∨ (t = 0 ∧ 4 < k) ∨ (t = 0 ∧ 1 ≤ k ∧ k ≤ 4 ∧ m = 1) ∨ (t = 0 ∧ 1 ≤ k ∧ k ≤ 4 ∧ m = 2) ∨ (t = 0 ∧ 1 ≤ k ∧ k ≤ 4 ∧ m ≠ 1 ∧ m ≠ 2) := by omega

set_option maxHeartbeats 2000000 in
theorem valid_any (t k m : Int) (s : Bool) (w : World) (ht : 0 ≤ t) (hk : 0 ≤ k) (hm : 0 ≤ m) :
    Calls Yba.prog 5 #[.agg #[.int .u8 t, .int .u8 k, .int .u8 m, .bool s]] w fun e w' => e = .returned (.bool (vldB t k m)) ∧ Below w.heap.size w w' := by
  rcases ways t k m ht hk hm with ⟨h1, h2⟩ | h1 | ⟨rfl, rfl⟩ | ⟨rfl, h2⟩ | ⟨rfl, h2, h3, rfl⟩ | ⟨rfl, h2, h3, rfl⟩ | ⟨rfl, h2, h3, h4, h5⟩
  all_goals
    go_enter Yba.func5, Yba.ntmps5
    go_wp2
    go_ret
    exact ⟨ret_bool (by rw [Bool.eq_iff_iff]; simp [vldB] <;> (try split) <;> omega), by go_grown⟩

set_option maxHeartbeats 2000000 in
theorem want_any (t k m : Int) (w : World) (ht : 0 ≤ t) (hk : 0 ≤ k) (hm : 0 ≤ m) :
    Calls Yba.prog 6 #[.int .u8 t, .int .u8 k, .int .u8 m] w fun e w' => e = .returned (.bool (vldB t k m)) ∧ w = w' := by
  rcases ways t k m ht hk hm with ⟨h1, h2⟩ | h1 | ⟨rfl, rfl⟩ | ⟨rfl, h2⟩ | ⟨rfl, h2, h3, rfl⟩ | ⟨rfl, h2, h3, rfl⟩ | ⟨rfl, h2, h3, h4, h5⟩
  all_goals
    go_enter Yba.func6, Yba.ntmps6
    go_wp2
    go_ret
    exact ⟨ret_bool (by rw [Bool.eq_iff_iff]; simp [vldB] <;> (try split) <;> omega), rfl⟩

set_option maxHeartbeats 1000000 in
theorem table_any (t k m : Int) (s : Bool) (w : World) (ht : 0 ≤ t) (hk : 0 ≤ k) (hm : 0 ≤ m) :
    Calls Yba.prog 3 #[.int .u8 t, .int .u8 k, .int .u8 m, .bool s] w fun e w' => e = .returned (.bool true) ∧ Below w.heap.size w w' := by
  go_enter Yba.func3, Yba.ntmps3
  go_wp2_with fail
  refine (valid_any _ _ _ _ _ ht hk hm).mono ?_
  rintro e w1 ⟨rfl, hb⟩
  go_wp2_with fail
  refine (want_any _ _ _ _ ht hk hm).mono ?_
  rintro e w2 ⟨rfl, rfl⟩
  go_wp2_with fail
  go_ret
  exact ⟨ret_bool (by simp), ((Below.refl _ _).alloc (Nat.le_refl _) _).trans (hb.mono (by simp))⟩

set_option maxHeartbeats 1000000 in
theorem tableLock_any (t : Int) (w : World) :
    Calls Yba.prog 7 #[.int .u8 t] w fun e w' => e = .returned (.agg #[.int .u8 t, .int .u8 0, .int .u8 0, .bool false]) ∧ Below w.heap.size w w' := by
  go_enter Yba.func7, Yba.ntmps7
  go_wp2
  go_returns
  exact ⟨rfl, by go_grown⟩

set_option maxHeartbeats 1000000 in
theorem rowLock_any (k m : Int) (s : Bool) (w : World) :
    Calls Yba.prog 8 #[.agg #[.int .u8 k, .int .u8 m, .bool s]] w fun e w' => e = .returned (.agg #[.int .u8 0, .int .u8 k, .int .u8 m, .bool s]) ∧ Below w.heap.size w w' := by
  go_enter Yba.func8, Yba.ntmps8
  go_wp2
  go_returns
  exact ⟨rfl, by go_grown⟩

theorem vld_t (t : Int) : vldB t 0 0 = decide (1 ≤ t ∧ t ≤ 4) := by
  rw [Bool.eq_iff_iff]; simp [vldB]; omega
theorem vld_k (k m : Int) : vldB 0 k m = decide (1 ≤ k ∧ k ≤ 4 ∧ (m = 1 ∨ m = 2)) := by simp [vldB]

set_option maxHeartbeats 2000000 in
/-- the law, the two answers named ahead: 'bt' for the table, 'br' for the row -/
theorem built_at (t k m : Int) (s : Bool) (w : World) (ht : 0 ≤ t) (hk : 0 ≤ k) (hm : 0 ≤ m) :
    Calls Yba.prog 4 #[.int .u8 t, .int .u8 k, .int .u8 m, .bool s] w fun e w' => e = .returned (.bool true) ∧ Below w.heap.size w w' := by
  have ht3 : (1 ≤ t ∧ t ≤ 4 ∧ vldB t 0 0 = true) ∨ (t < 1 ∧ vldB t 0 0 = false) ∨ (1 ≤ t ∧ ¬ t ≤ 4 ∧ vldB t 0 0 = false) := by
    rw [vld_t]; simp; omega
  have hk5 : (k < 1 ∧ vldB 0 k m = false) ∨ (1 ≤ k ∧ ¬ k ≤ 4 ∧ vldB 0 k m = false) ∨ (1 ≤ k ∧ k ≤ 4 ∧ m = 1 ∧ vldB 0 k m = true) ∨ (1 ≤ k ∧ k ≤ 4 ∧ m = 2 ∧ vldB 0 k m = true) ∨ (1 ≤ k ∧ k ≤ 4 ∧ (m == 1) = false ∧ (m == 2) = false ∧ vldB 0 k m = false) := by
    rw [vld_k]; simp; omega
  rcases ht3 with ⟨t1, t2, hv⟩ | ⟨t1, hv⟩ | ⟨t1, t2, hv⟩
  all_goals
    rcases hk5 with ⟨k1, hr⟩ | ⟨k1, k2, hr⟩ | ⟨k1, k2, rfl, hr⟩ | ⟨k1, k2, rfl, hr⟩ | ⟨k1, k2, k3, k4, hr⟩
    all_goals
      go_enter Yba.func4, Yba.ntmps4
      go_wp2_with fail
      refine (tableLock_any _ _).mono ?_
      rintro e w1 ⟨rfl, hb1⟩
      go_wp2_with fail
      refine (valid_any _ _ _ _ _ ht (by omega) (by omega)).mono ?_
      rintro e w2 ⟨rfl, hb2⟩
      go_wp2_with fail
      refine (rowLock_any _ _ _ _).mono ?_
      rintro e w3 ⟨rfl, hb3⟩
      go_wp2_with fail
      refine (valid_any _ _ _ _ _ (by omega) hk (by omega)).mono ?_
      rintro e w4 ⟨rfl, hb4⟩
      go_wp2_with fail
      go_ret
      exact ⟨by first | rfl | exact ret_bool (by simpa using t2), ((hb1.trans (hb2.mono hb1.size)).trans (hb3.mono (Nat.le_trans hb1.size hb2.size))).trans (hb4.mono (Nat.le_trans (Nat.le_trans hb1.size hb2.size) hb3.size))⟩
end Go.Proofs.Ybulkaamc
