/-
  Seat b6629999a: FnMonthShiftAndSteps (4): THE WALK.
-/
import Derived.Test.Qxb6629999aMonth
namespace Go.Proofs.Qxb6629999a
open Go.RowKit

set_option maxHeartbeats 400000 in
theorem shift_far (d : Int) (w : World) (h : 18014398509481984 < d ∨ d < -18014398509481984) :
    Calls Try.prog 4 #[.int .i64 d] w fun e w' => e = .returned (.bool true) ∧ w' = w := by
  rcases h with h | h
  · go_enter Try.func4, Try.ntmps4
    go_wp2
    go_ret
    exact ⟨rfl, rfl⟩
  · have h' : ¬ 18014398509481984 < d := by omega
    go_enter Try.func4, Try.ntmps4
    go_wp2
    go_ret
    exact ⟨rfl, rfl⟩

set_option maxHeartbeats 1000000 in
theorem shift_near (d : Int) (w : World) (h1 : -18014398509481984 ≤ d) (h2 : d ≤ 18014398509481984) :
    Calls Try.prog 4 #[.int .i64 d] w fun e w' => e = .returned (.bool true) ∧ w' = w := by
  go_enter Try.func4, Try.ntmps4
  go_wp2_with (go_at_call 5; go_in)
  refine (month_any _ _ (by omega) (by omega)).mono ?_
  rintro e w1 ⟨M0, rfl, H0, b0, b0', hw1⟩
  subst hw1
  have H0' : Hid (Holds (d + 719528) M0) := H0
  clear H0
  go_wp2_with fail
  refine (month_any _ _ (by omega) (by omega)).mono ?_
  rintro e w1 ⟨M1, rfl, H1, b1, b1', hw1⟩
  subst hw1
  have H1' : Hid (Holds (d + 1 + 719528) M1) := H1
  clear H1
  go_wp2_with fail
  refine (month_any _ _ (by omega) (by omega)).mono ?_
  rintro e w1 ⟨M31, rfl, H31, b31, b31', hw1⟩
  subst hw1
  have H31' : Hid (Holds (d + 31 + 719528) M31) := H31
  clear H31
  go_wp2_with fail
  refine (month_any _ _ (by omega) (by omega)).mono ?_
  rintro e w1 ⟨M400, rfl, H400, b400, b400', hw1⟩
  subst hw1
  have e1 := holds_step H0'.out (by have := H1'.out; rwa [show d + 1 + 719528 = d + 719528 + 1 by omega] at this)
  have e2 := holds_jump H0'.out (by have := H31'.out; rwa [show d + 31 + 719528 = d + 719528 + 31 by omega] at this)
  have e3 := holds_shift H0'.out (by rwa [show d + 146097 + 719528 = d + 719528 + 146097 by omega] at H400)
  clear H0' H1' H31' H400
  obtain ⟨x, rfl⟩ : ∃ x, M1 = M0 + x := ⟨M1 - M0, by omega⟩
  obtain ⟨z, rfl⟩ : ∃ z, M31 = M0 + z := ⟨M31 - M0, by omega⟩
  subst e3
  have ex : x = 0 ∨ x = 1 := by omega
  have ez : z = 1 ∨ z = 2 := by omega
  clear e1 e2
  rcases ex with rfl | rfl <;> rcases ez with rfl | rfl
  all_goals
    go_wp2
    go_ret
    first | exact ⟨rfl, rfl⟩ | exact ⟨ret_b _ _ (by rw [show M0 + 2 - M0 = 2 by omega]; rfl), rfl⟩

end Go.Proofs.Qxb6629999a
