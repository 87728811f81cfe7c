/-
  Seat b6629999a: civilMonth (7) and FnMonthMatchesCivilAlgorithm (3): THE WALKS.
-/
import Derived.Test.Qxb6629999aMonth
import Derived.Test.Qxb6629999aCivil
namespace Go.Proofs.Qxb6629999a
open Go.RowKit

theorem down (a : Int) (h : a < 0) : (a - 146096).tdiv 146097 = a / 146097 := by
  have e : a - 146096 = -(146096 - a) := by omega
  rw [e, Int.neg_tdiv, Int.tdiv_eq_ediv_of_nonneg (by omega)]
  omega

set_option maxHeartbeats 1000000 in
theorem civil_neg (d E n Y q P : Int) (w : World) (h1 : -18014398509481984 ≤ d) (h2 : d ≤ 18014398509481984) (hz : d + 719468 < 0)
    (hE : (d + 719468 - 146096).tdiv 146097 = E) (e0 : -1000000000000 ≤ E ∧ E ≤ 1000000000000) (hn : d + 719468 - E * 146097 = n) (hY : (n - n / 1460 + n / 36524 - n / 146096) / 365 = Y) (hq : n - (365 * Y + Y / 4 - Y / 100) = q) (hP : (5 * q + 2) / 153 = P)
    (n0 : 0 ≤ n) (n1 : n ≤ 146096) (f0 : 0 ≤ n - n / 1460 + n / 36524 - n / 146096) (y0 : 0 ≤ Y) (y1 : Y ≤ 399) (q0 : 0 ≤ q) (q1 : q ≤ 365) (p0 : 0 ≤ P ∧ P ≤ 11) :
    Calls Try.prog 7 #[.int .i64 d] w fun e w' => e = .returned (.int .i64 (if 10 ≤ P then 12 * (Y + E * 400 + 1) + (P - 9) - 1 else 12 * (Y + E * 400) + (P + 3) - 1)) ∧ w' = w := by
  go_enter Try.func7, Try.ntmps7
  go_wp2
  all_goals
    go_ret
    exact ⟨rfl, rfl⟩

set_option maxHeartbeats 1000000 in
theorem civil_pos (d E n Y q P : Int) (w : World) (h1 : -18014398509481984 ≤ d) (h2 : d ≤ 18014398509481984) (hz : 0 ≤ d + 719468)
    (hE : (d + 719468) / 146097 = E) (e0 : -1000000000000 ≤ E ∧ E ≤ 1000000000000) (hn : d + 719468 - E * 146097 = n) (hY : (n - n / 1460 + n / 36524 - n / 146096) / 365 = Y) (hq : n - (365 * Y + Y / 4 - Y / 100) = q) (hP : (5 * q + 2) / 153 = P)
    (_n0 : 0 ≤ n) (_n1 : n ≤ 146096) (f0 : 0 ≤ n - n / 1460 + n / 36524 - n / 146096) (y0 : 0 ≤ Y) (y1 : Y ≤ 399) (q0 : 0 ≤ q) (q1 : q ≤ 365) (p0 : 0 ≤ P ∧ P ≤ 11) :
    Calls Try.prog 7 #[.int .i64 d] w fun e w' => e = .returned (.int .i64 (if 10 ≤ P then 12 * (Y + E * 400 + 1) + (P - 9) - 1 else 12 * (Y + E * 400) + (P + 3) - 1)) ∧ w' = w := by
  go_enter Try.func7, Try.ntmps7
  go_wp2
  all_goals
    go_ret
    exact ⟨rfl, rfl⟩

theorem civil_any (d : Int) (w : World) (h1 : -18014398509481984 ≤ d) (h2 : d ≤ 18014398509481984) :
    Calls Try.prog 7 #[.int .i64 d] w fun e w' => e = .returned (.int .i64 (civ (d + 719468))) ∧ w' = w := by
  have hd0 : 0 ≤ (d + 719468) - (d + 719468) / 146097 * 146097 := by omega
  have hd1 : (d + 719468) - (d + 719468) / 146097 * 146097 ≤ 146096 := by omega
  obtain ⟨y0, y1, s0, s1⟩ := year_of hd0 hd1
  have e0 : ∀ Y : Int, 0 ≤ Y → Y ≤ 399 → 365 * Y + Y / 4 - Y / 100 = sy Y := fun Y _ _ => by unfold sy; omega
  have e1 : ∀ Y : Int, 0 ≤ Y → Y ≤ 399 → sy (Y + 1) - sy Y ≤ 366 := fun Y _ _ => by unfold sy; omega
  have e0' := e0 _ y0 y1
  have e1' := e1 _ y0 y1
  have f0 : 0 ≤ fy ((d + 719468) - (d + 719468) / 146097 * 146097) := by omega
  by_cases hz : d + 719468 < 0
  · exact civil_neg d _ _ _ _ _ w h1 h2 hz (down _ hz) (by omega) rfl rfl rfl rfl hd0 hd1 f0 y0 y1 (by unfold fy at *; omega) (by unfold fy at *; omega) (by unfold fy at *; omega)
  · exact civil_pos d _ _ _ _ _ w h1 h2 (by omega) rfl (by omega) rfl rfl rfl rfl hd0 hd1 f0 y0 y1 (by unfold fy at *; omega) (by unfold fy at *; omega) (by unfold fy at *; omega)

set_option maxHeartbeats 400000 in
theorem match_far (d : Int) (w : World) (h : 18014398509481984 < d ∨ d < -18014398509481984) :
    Calls Try.prog 3 #[.int .i64 d] w fun e w' => e = .returned (.bool true) ∧ w' = w := by
  rcases h with h | h
  · go_enter Try.func3, Try.ntmps3
    go_wp2
    go_ret
    exact ⟨rfl, rfl⟩
  · have h' : ¬ 18014398509481984 < d := by omega
    go_enter Try.func3, Try.ntmps3
    go_wp2
    go_ret
    exact ⟨rfl, rfl⟩

set_option maxHeartbeats 1000000 in
theorem match_near (d : Int) (w : World) (h1 : -18014398509481984 ≤ d) (h2 : d ≤ 18014398509481984) :
    Calls Try.prog 3 #[.int .i64 d] w fun e w' => e = .returned (.bool true) ∧ w' = w := by
  go_enter Try.func3, Try.ntmps3
  go_wp2_with (go_at_call 5; go_in)
  refine (month_any _ _ (by omega) (by omega)).mono ?_
  rintro e w1 ⟨M0, rfl, H0, b0, b0', hw1⟩
  subst hw1
  have hc := civ_holds (d + 719468)
  rw [show d + 719468 + 60 = d + 719528 by omega] at hc
  obtain rfl := holds_uniq H0 hc
  clear H0 hc
  go_wp2_with (go_at_call 7; refine (civil_any d _ h1 h2).mono ?_; rintro e w2 ⟨rfl, rfl⟩)
  go_ret
  exact ⟨ret_b _ _ (by simp), rfl⟩

end Go.Proofs.Qxb6629999a
