/-
  THE WALK OF LawS1331AYear: two loops over the twelve months.
-/
import Derived.Test.YbulkaansWalkA
namespace Go.Proofs.Ybulkaans
open Go.RowKit
set_option linter.unusedVariables false
set_option linter.unusedSimpArgs false

/-- the days of the first k months -/
def acc (y : Int) : Nat → Int | 0 => 0 | k + 1 => acc y k + dim (k + 1) y
theorem dim_bd (m y : Int) : 28 ≤ dim m y ∧ dim m y ≤ 31 := by unfold dim; (repeat' split) <;> omega
theorem acc_bd (y : Int) (k : Nat) : 0 ≤ acc y k ∧ acc y k ≤ 31 * k := by
  induction k with
  | zero => simp [acc]
  | succ k ih => have := dim_bd (k + 1) y; simp only [acc]; omega
theorem acc_12 (y : Int) : acc y 12 = if leapB y = true then 366 else 365 := by
  by_cases h : leapB y = true <;> simp [acc, dim, h]

theorem tmod_add (y : Int) (n : Int) (hn : n ∣ 400) : ((y + 400).tmod n == 0) = (y.tmod n == 0) := by
  have h : (n ∣ y + 400) ↔ (n ∣ y) := (Int.dvd_add_left hn)
  rw [Bool.eq_iff_iff]
  simp only [beq_iff_eq]
  exact ⟨fun e => Int.tmod_eq_zero_of_dvd (h.1 (Int.dvd_of_tmod_eq_zero e)), fun e => Int.tmod_eq_zero_of_dvd (h.2 (Int.dvd_of_tmod_eq_zero e))⟩
theorem leap_400 (y : Int) : leapB (y + 400) = leapB y := by
  unfold leapB
  rw [tmod_add y 400 (by decide), tmod_add y 100 (by decide), tmod_add y 4 (by decide)]
theorem dim_400 (m y : Int) : dim m (y + 400) = dim m y := by unfold dim; rw [leap_400]

theorem ret_b {b : Bool} (h : b = true) : Ending.returned (.bool b) = .returned (.bool true) := by rw [h]

set_option maxHeartbeats 2000000 in
theorem year_any (y : Int) (w : World) (h1 : -9223372036854775808 ≤ y) (h2 : y ≤ 9223372036854775807) :
    Calls Yba.prog 4 #[.int .i64 y] w fun e w' => e = .returned (.bool true) ∧ Grown w w' := by
  go_enter Yba.func4, Yba.ntmps4
  go_wp2
  go_loop [3, 4] (fun t i => ∃ k : Nat, k ≤ 12 ∧ i = .int .i64 (k + 1) ∧ t = .int .i64 (acc y k)) (fun _ i => 13 - (intOf i).toNat)
  case atStart => exact ⟨0, by omega, rfl, rfl⟩
  case round =>
    obtain ⟨k, hk, rfl, rfl⟩ := hrel
    have hb := acc_bd y k
    have hd := dim_bd (k + 1) y
    by_cases hlt : k < 12
    · go_wp2_with (first | (go_at_call 6; refine (days_any _ _ _).mono ?_; rintro e w' ⟨rfl, rfl⟩))
      go_round
      case rel => exact ⟨k + 1, by omega, by go_num, rfl⟩
      case measure => simp [intOf]; omega
    · obtain rfl : k = 12 := by omega
      have e12 := acc_12 y
      clear hb hd
      by_cases hl : leapB y = true
      · rw [if_pos hl] at e12
        rw [e12]
        clear e12
        by_cases h3 : 1099511627776 < y
        · go_wp2_with (first | (go_at_call 5; refine (leap_any _ _).mono ?_; rintro e w' ⟨rfl, rfl⟩))
          go_ret
          exact ⟨rfl, Grown.refl _⟩
        · by_cases h4 : y < -1099511627776
          · go_wp2_with (first | (go_at_call 5; refine (leap_any _ _).mono ?_; rintro e w' ⟨rfl, rfl⟩))
            go_ret
            exact ⟨rfl, Grown.refl _⟩
          · go_wp2_with (first | (go_at_call 5; refine (leap_any _ _).mono ?_; rintro e w' ⟨rfl, rfl⟩))
            go_loop [6] (fun i => ∃ k : Nat, k ≤ 12 ∧ i = .int .i64 (k + 1)) (fun i => 13 - (intOf i).toNat)
            case atStart => exact ⟨0, by omega, rfl⟩
            case round =>
              obtain ⟨k, hk, rfl⟩ := hrel
              have hd := dim_400 (k + 1) y
              by_cases hlt : k < 12
              · go_wp2_with (first | (go_at_call 6; refine (days_any _ _ _).mono ?_; rintro e w' ⟨rfl, rfl⟩))
                go_round
                case rel => exact ⟨k + 1, by omega, by go_num⟩
                case measure => simp [intOf]; omega
              · obtain rfl : k = 12 := by omega
                clear hd
                go_wp2
                go_ret
                exact ⟨rfl, Grown.refl _⟩
      · have hl' : leapB y = false := by simpa using hl
        rw [if_neg hl] at e12
        clear hl
        rw [e12]
        clear e12
        by_cases h3 : 1099511627776 < y
        · go_wp2_with (first | (go_at_call 5; refine (leap_any _ _).mono ?_; rintro e w' ⟨rfl, rfl⟩))
          go_ret
          exact ⟨rfl, Grown.refl _⟩
        · by_cases h4 : y < -1099511627776
          · go_wp2_with (first | (go_at_call 5; refine (leap_any _ _).mono ?_; rintro e w' ⟨rfl, rfl⟩))
            go_ret
            exact ⟨rfl, Grown.refl _⟩
          · go_wp2_with (first | (go_at_call 5; refine (leap_any _ _).mono ?_; rintro e w' ⟨rfl, rfl⟩))
            go_loop [6] (fun i => ∃ k : Nat, k ≤ 12 ∧ i = .int .i64 (k + 1)) (fun i => 13 - (intOf i).toNat)
            case atStart => exact ⟨0, by omega, rfl⟩
            case round =>
              obtain ⟨k, hk, rfl⟩ := hrel
              have hd := dim_400 (k + 1) y
              by_cases hlt : k < 12
              · go_wp2_with (first | (go_at_call 6; refine (days_any _ _ _).mono ?_; rintro e w' ⟨rfl, rfl⟩))
                go_round
                case rel => exact ⟨k + 1, by omega, by go_num⟩
                case measure => simp [intOf]; omega
              · obtain rfl : k = 12 := by omega
                clear hd
                go_wp2
                go_ret
                exact ⟨rfl, Grown.refl _⟩
end Go.Proofs.Ybulkaans
