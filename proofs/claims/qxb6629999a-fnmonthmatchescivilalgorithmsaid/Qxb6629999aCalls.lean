/-
  Seat b6629999a: CONTRACTS: floorDiv (9), daysBefore (8), isLeap (11), daysBeforeMonth (10).
-/
import Derived.Test.Qxb6629999aPlain
import Derived.WalkKit
import Derived.WalkSpells
import Derived.WalkLawsBesides
namespace Go.Proofs.Qxb6629999a
open Go.RowKit

theorem ret_b (a b : Bool) (h : a = b) : Ending.returned (.bool a) = .returned (.bool b) := by rw [h]
theorem ret_i (a b : Int) (h : a = b) : Ending.returned (.int .i64 a) = .returned (.int .i64 b) := by rw [h]

set_option maxHeartbeats 400000 in
theorem floor_any (a b : Int) (w : World) (hb : b = 4 ∨ b = 100 ∨ b = 400 ∨ b = 146097) (h1 : -9000000000000000000 ≤ a) (h2 : a ≤ 9000000000000000000) :
    Calls Try.prog 9 #[.int .i64 a, .int .i64 b] w fun e w' => e = .returned (.int .i64 (a / b)) ∧ w' = w := by
  by_cases hn : a < 0
  · rcases hb with rfl | rfl | rfl | rfl
    all_goals
      go_enter Try.func9, Try.ntmps9
      go_wp2
      go_ret
      exact ⟨ret_i _ _ (by omega), rfl⟩
  · rcases hb with rfl | rfl | rfl | rfl
    all_goals
      go_enter Try.func9, Try.ntmps9
      go_wp2
      go_ret
      exact ⟨rfl, rfl⟩

set_option maxHeartbeats 400000 in
theorem days_any (y : Int) (w : World) (h1 : -100000000000000 ≤ y) (h2 : y ≤ 100000000000000) :
    Calls Try.prog 8 #[.int .i64 y] w fun e w' => e = .returned (.int .i64 (dby y)) ∧ w' = w := by
  go_enter Try.func8, Try.ntmps8
  go_wp2_with (go_at_call 9; refine (floor_any _ _ _ (by decide) (by omega) (by omega)).mono ?_; rintro e w' ⟨rfl, rfl⟩)
  go_ret
  exact ⟨ret_i _ _ (by unfold dby; omega), rfl⟩

theorem tm (y : Int) (k : Int) : (y.tmod k = 0) ↔ (y % k = 0) := by
  rw [← Int.dvd_iff_tmod_eq_zero, ← Int.dvd_iff_emod_eq_zero]

set_option maxHeartbeats 400000 in
theorem leap_any (y : Int) (w : World) (_h1 : -100000000000000 ≤ y) (_h2 : y ≤ 100000000000000) :
    Calls Try.prog 11 #[.int .i64 y] w fun e w' => e = .returned (.bool (lpB y)) ∧ w' = w := by
  by_cases h4 : y.tmod 4 = 0
  · by_cases h100 : y.tmod 100 = 0
    · by_cases h400 : y.tmod 400 = 0
      · have hl : Hid (lpB y = true) := by rw [tm] at h4 h100 h400; unfold Hid lpB; simp [h4, h400]
        go_enter Try.func11, Try.ntmps11
        go_wp2
        go_ret
        exact ⟨ret_b _ _ hl.out.symm, rfl⟩
      · have hl : Hid (lpB y = false) := by rw [tm] at h4 h100 h400; unfold Hid lpB; simp [h100, h400]
        have h400' : (y.tmod 400 == 0) = false := by simp [h400]
        clear h400
        go_enter Try.func11, Try.ntmps11
        go_wp2
        go_ret
        exact ⟨ret_b _ _ hl.out.symm, rfl⟩
    · have hl : Hid (lpB y = true) := by rw [tm] at h4 h100; unfold Hid lpB; simp [h4, h100]
      have h100' : (y.tmod 100 != 0) = true := by simp [h100]
      clear h100
      go_enter Try.func11, Try.ntmps11
      go_wp2
      go_ret
      exact ⟨ret_b _ _ hl.out.symm, rfl⟩
  · have hl : Hid (lpB y = false) := by rw [tm] at h4; unfold Hid lpB; simp [h4]
    have h4' : (y.tmod 4 == 0) = false := by simp [h4]
    clear h4
    go_enter Try.func11, Try.ntmps11
    go_wp2
    go_ret
    exact ⟨ret_b _ _ hl.out.symm, rfl⟩

theorem index_tab (m : Int) (h1 : 1 ≤ m) (h2 : m ≤ 12) (w : World) :
    (Instr.index 29 (.agg #[.int .i64 0, .int .i64 31, .int .i64 59, .int .i64 90, .int .i64 120, .int .i64 151, .int .i64 181, .int .i64 212, .int .i64 243, .int .i64 273, .int .i64 304, .int .i64 334]) (.int .i64 (m - 1))).run Try.prog w = .ok (.int .i64 (tab m)) w := by
  rcases months h1 h2 with rfl | rfl | rfl | rfl | rfl | rfl | rfl | rfl | rfl | rfl | rfl | rfl <;> kernel_rfl

set_option maxHeartbeats 400000 in
theorem month_days_any (y m : Int) (w : World) (h1 : -100000000000000 ≤ y) (h2 : y ≤ 100000000000000) (hm1 : 1 ≤ m) (hm2 : m ≤ 12) :
    Calls Try.prog 10 #[.int .i64 y, .int .i64 m] w fun e w' => e = .returned (.int .i64 (dbm y m)) ∧ w' = w := by
  have hix := index_tab m hm1 hm2
  have ht := tab_in m
  by_cases hm : 2 < m
  · cases hb : lpB y
    · have hl : Hid (dbm y m = tab m) := by unfold Hid dbm; simp [hb]
      go_enter Try.func10, Try.ntmps10
      go_wp2_with (go_at_call 11; refine (leap_any y _ h1 h2).mono ?_; rintro e w' ⟨rfl, rfl⟩)
      go_ret
      exact ⟨ret_i _ _ hl.out.symm, rfl⟩
    · have hl : Hid (dbm y m = tab m + 1) := by unfold Hid dbm; simp [hb, hm]
      go_enter Try.func10, Try.ntmps10
      go_wp2_with (go_at_call 11; refine (leap_any y _ h1 h2).mono ?_; rintro e w' ⟨rfl, rfl⟩)
      go_ret
      exact ⟨ret_i _ _ hl.out.symm, rfl⟩
  · have hl : Hid (dbm y m = tab m) := by unfold Hid dbm; simp [hm]
    go_enter Try.func10, Try.ntmps10
    go_wp2_with fail
    go_ret
    exact ⟨ret_i _ _ hl.out.symm, rfl⟩

end Go.Proofs.Qxb6629999a
