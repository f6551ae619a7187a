/-
  THE WALKS OF b1331a: 'daysIn' and 'zzs1331aleap' as plain functions; the two laws over them.
-/
import Derived.Test.YbulkaansProg
import Derived.WalkKit
import Derived.WalkSpells
import Derived.RowKit3
namespace Go.Proofs.Ybulkaans
open Go.RowKit
set_option linter.unusedVariables false

/-- the leap rule as 'zzs1331aleap' has it -/
def leapB (y : Int) : Bool := (y.tmod 400 == 0) || (!(y.tmod 100 == 0) && (y.tmod 4 == 0))
/-- 'daysIn', plain -/
def dim (m y : Int) : Int := if m = 2 then (if leapB y = true then 29 else 28) else if m = 4 ∨ m = 6 ∨ m = 9 ∨ m = 11 then 30 else 31

theorem tmod_four {y : Int} (h : y.tmod 400 = 0) : y.tmod 4 = 0 := by
  have h1 : (400 : Int) ∣ y := Int.dvd_of_tmod_eq_zero h
  exact Int.tmod_eq_zero_of_dvd (Int.dvd_trans (by decide) h1)
theorem tmod_hundred {y : Int} (h : y.tmod 400 = 0) : y.tmod 100 = 0 := by
  have h1 : (400 : Int) ∣ y := Int.dvd_of_tmod_eq_zero h
  exact Int.tmod_eq_zero_of_dvd (Int.dvd_trans (by decide) h1)

theorem leap_any (y : Int) (w : World) :
    Calls Yba.prog 5 #[.int .i64 y] w fun e w' => e = .returned (.bool (leapB y)) ∧ w' = w := by
  by_cases h1 : (y.tmod 400 == 0) = true
  · have e : leapB y = true := by simp [leapB, h1]
    rw [e]; clear e
    go_enter Yba.func5, Yba.ntmps5
    go_wp2
    go_ret
    exact ⟨rfl, rfl⟩
  · have h1' : (y.tmod 400 == 0) = false := by simpa using h1
    clear h1
    by_cases h2 : (y.tmod 100 == 0) = true
    · have e : leapB y = false := by simp [leapB, h1', h2]
      rw [e]; clear e
      go_enter Yba.func5, Yba.ntmps5
      go_wp2
      go_ret
      exact ⟨rfl, rfl⟩
    · have h2' : (y.tmod 100 == 0) = false := by simpa using h2
      clear h2
      have e : leapB y = (y.tmod 4 == 0) := by simp [leapB, h1', h2']
      rw [e]; clear e
      go_enter Yba.func5, Yba.ntmps5
      go_wp2
      go_ret
      exact ⟨rfl, rfl⟩

theorem ret_int {k : IntKind} {a b : Int} (h : a = b) : Ending.returned (.int k a) = .returned (.int k b) := by rw [h]

set_option maxHeartbeats 400000 in
theorem days_any (m y : Int) (w : World) :
    Calls Yba.prog 6 #[.int .i64 m, .int .i64 y] w fun e w' => e = .returned (.int .i64 (dim m y)) ∧ w' = w := by
  go_enter Yba.func6, Yba.ntmps6
  go_wp2
  all_goals
    go_ret
    refine ⟨ret_int ?_, rfl⟩
    have h4 := @tmod_four y
    simp_all [dim, leapB]

/-- the plain table of 'LawS1331AExact' -/
theorem dim_out (m y : Int) (h : m < 1 ∨ 12 < m) : dim m y = 31 := by unfold dim; rw [if_neg (by omega), if_neg (by omega)]

/-- the law at one month: 'k' is what the table holds -/
theorem exact_out (m y : Int) (w : World) (h : m < 1 ∨ 12 < m) :
    Calls Yba.prog 3 #[.int .i64 m, .int .i64 y] w fun e w' => e = .returned (.bool true) ∧ Grown w w' := by
  have e := dim_out m y h
  have e31 : (dim m y == 31) = true := by rw [e]; rfl
  clear e
  rcases h with h | h
  · go_enter Yba.func3, Yba.ntmps3
    go_wp2_with (first | (go_at_call 6; refine (days_any _ _ _).mono ?_; rintro e w' ⟨rfl, rfl⟩))
    go_ret
    exact ⟨rfl, by repeat (first | exact Grown.refl _ | apply Grown.drew | apply Grown.alloc)⟩
  · have h1 : 1 ≤ m := by omega
    have h2 : ¬ m ≤ 12 := by omega
    go_enter Yba.func3, Yba.ntmps3
    go_wp2_with (first | (go_at_call 6; refine (days_any _ _ _).mono ?_; rintro e w' ⟨rfl, rfl⟩))
    go_ret
    exact ⟨rfl, by repeat (first | exact Grown.refl _ | apply Grown.drew | apply Grown.alloc)⟩

theorem ret_true {b : Bool} (h : b = true) : Ending.returned (.bool b) = .returned (.bool true) := by rw [h]

set_option maxHeartbeats 1000000 in
theorem exact_in (m y : Int) (w : World) (h1 : 1 ≤ m) (h2 : m ≤ 12) (hm : m ≠ 2) :
    Calls Yba.prog 3 #[.int .i64 m, .int .i64 y] w fun e w' => e = .returned (.bool true) ∧ Grown w w' := by
  have hm : m = 1 ∨ m = 3 ∨ m = 4 ∨ m = 5 ∨ m = 6 ∨ m = 7 ∨ m = 8 ∨ m = 9 ∨ m = 10 ∨ m = 11 ∨ m = 12 := by omega
  clear h1 h2
  rcases hm with rfl | rfl | rfl | rfl | rfl | rfl | rfl | rfl | rfl | rfl | rfl
  all_goals
    go_enter Yba.func3, Yba.ntmps3
    go_wp2_with (first | (go_at_call 6; refine (days_any _ _ _).mono ?_; rintro e w' ⟨rfl, rfl⟩))
    go_ret
    exact ⟨ret_true (by simp [dim]), by repeat (first | exact Grown.refl _ | apply Grown.drew | apply Grown.alloc)⟩

set_option maxHeartbeats 400000 in
theorem exact_feb (y : Int) (w : World) :
    Calls Yba.prog 3 #[.int .i64 2, .int .i64 y] w fun e w' => e = .returned (.bool true) ∧ Grown w w' := by
  by_cases hl : leapB y = true
  · go_enter Yba.func3, Yba.ntmps3
    go_wp2_with (first | (go_at_call 6; refine (days_any _ _ _).mono ?_; rintro e w' ⟨rfl, rfl⟩) | (go_at_call 5; refine (leap_any _ _).mono ?_; rintro e w' ⟨rfl, rfl⟩))
    go_ret
    exact ⟨ret_true (by simp [dim, hl]), by repeat (first | exact Grown.refl _ | apply Grown.drew | apply Grown.alloc)⟩
  · have hl' : leapB y = false := by simpa using hl
    clear hl
    go_enter Yba.func3, Yba.ntmps3
    go_wp2_with (first | (go_at_call 6; refine (days_any _ _ _).mono ?_; rintro e w' ⟨rfl, rfl⟩) | (go_at_call 5; refine (leap_any _ _).mono ?_; rintro e w' ⟨rfl, rfl⟩))
    go_ret
    exact ⟨ret_true (by simp [dim, hl']), by repeat (first | exact Grown.refl _ | apply Grown.drew | apply Grown.alloc)⟩

theorem exact_any (m y : Int) (w : World) :
    Calls Yba.prog 3 #[.int .i64 m, .int .i64 y] w fun e w' => e = .returned (.bool true) ∧ Grown w w' := by
  by_cases h : m < 1 ∨ 12 < m
  · exact exact_out m y w h
  · by_cases h2 : m = 2
    · subst h2; exact exact_feb y w
    · exact exact_in m y w (by omega) (by omega) h2
end Go.Proofs.Ybulkaans
