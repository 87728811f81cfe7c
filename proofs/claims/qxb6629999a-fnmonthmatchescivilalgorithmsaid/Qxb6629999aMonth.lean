/-
  Seat b6629999a: Date.Month (6): it gives the month in which the day lies.
-/
import Derived.Test.Qxb6629999aCalls
namespace Go.Proofs.Qxb6629999a
open Go.RowKit

theorem days1970 (w : World) : Calls Try.prog 8 #[.int .i64 1970] w fun e w' => e = .returned (.int .i64 719528) ∧ w' = w := by
  refine (days_any 1970 w (by omega) (by omega)).mono fun e w' ⟨he, hw⟩ => ⟨?_, hw⟩
  rw [he]
  exact ret_i _ _ (by unfold dby; omega)

/-- The guess. -/
theorem guess (D : Int) : 146097 * (D * 400 / 146097) ≤ 400 * D ∧ 400 * D < 146097 * (D * 400 / 146097 + 1) := by omega

theorem found {D y m : Int} (h2 : D < dby (y + 1)) (hm1 : 1 ≤ m) (hm2 : m ≤ 12) (h3 : dbm y m ≤ D - dby y) (h4 : m < 12 → D - dby y < dbm y (m + 1)) : Holds D (12 * y + m - 1) := by
  refine ⟨?_, ?_⟩
  · rw [F_mk hm1 hm2]; omega
  · rw [F_next hm1 hm2]
    split
    · exact h2
    · have := h4 (by omega)
      omega

set_option maxRecDepth 100000 in
set_option maxHeartbeats 1000000 in
theorem month_any (d : Int) (w : World) (hd1 : -18014398520000000 ≤ d) (hd2 : d ≤ 18014398520000000) :
    Calls Try.prog 6 #[.int .i64 d] w fun e w' => ∃ M : Int, e = .returned (.int .i64 M) ∧ Holds (d + 719528) M ∧ -1000000000000000 ≤ M ∧ M ≤ 1000000000000000 ∧ w' = w := by
  have hg := guess (d + 719528)
  go_enter Try.func6, Try.ntmps6
  go_wp2_with (first
    | (go_at_call 8; refine (days1970 _).mono ?_; rintro e w' ⟨rfl, rfl⟩)
    | (go_at_call 9; refine (floor_any _ _ _ (by decide) (by omega) (by omega)).mono ?_; rintro e w' ⟨rfl, rfl⟩))
  generalize (d + 719528) * 400 / 146097 = g at hg ⊢
  obtain ⟨hg1, hg2⟩ := hg
  go_loop [4] (fun t => ∃ y : Int, g ≤ y ∧ y ≤ g + 1 ∧ t = .int .i64 y) (fun t => (g + 1 - intOf t).toNat)
  case atStart => exact ⟨g, by omega, by omega, rfl⟩
  case round =>
    obtain ⟨y, hy1, hy2, rfl⟩ := hrel
    have l1 := dby_lo (y + 1)
    have l2 := dby_hi (y + 1)
    by_cases hc : dby (y + 1) ≤ d + 719528
    · go_wp2_with (go_at_call 8; refine (days_any _ _ (by omega) (by omega)).mono ?_; rintro e w' ⟨rfl, rfl⟩)
      go_round
      case rel => exact ⟨y + 1, by omega, by omega, rfl⟩
      case measure => simp [intOf]; omega
    · go_wp2_with (go_at_call 8; refine (days_any _ _ (by omega) (by omega)).mono ?_; rintro e w' ⟨rfl, rfl⟩)
      go_loop [4] (fun t => ∃ y : Int, g - 1 ≤ y ∧ y ≤ g + 1 ∧ d + 719528 < dby (y + 1) ∧ t = .int .i64 y) (fun t => (intOf t - (g - 1)).toNat)
      case atStart => exact ⟨y, by omega, by omega, by omega, rfl⟩
      case round =>
        clear l1 l2 hc hy1 hy2
        obtain ⟨y', hy1, hy2, hy3, rfl⟩ := hrel
        have l1 := dby_lo y'
        have l2 := dby_hi y'
        by_cases hc : d + 719528 < dby y'
        · go_wp2_with (go_at_call 8; refine (days_any _ _ (by omega) (by omega)).mono ?_; rintro e w' ⟨rfl, rfl⟩)
          go_round
          case rel => exact ⟨y' - 1, by omega, by omega, by rw [show y' - 1 + 1 = y' by omega]; exact hc, rfl⟩
          case measure => simp [intOf]; omega
        · have hsu := dby_succ y'
          have hlp := lp_01 y'
          have hday : 0 ≤ d + 719528 - dby y' ∧ d + 719528 - dby y' ≤ 365 := by omega
          clear hsu hlp
          go_wp2_with (go_at_call 8; refine (days_any _ _ (by omega) (by omega)).mono ?_; rintro e w' ⟨rfl, rfl⟩)
          go_loop [6] (fun t => ∃ m : Int, 1 ≤ m ∧ m ≤ 12 ∧ Hid (m < 12 → d + 719528 - dby y' < dbm y' (m + 1)) ∧ t = .int .i64 m) (fun t => (intOf t - 1).toNat)
          case atStart => exact ⟨12, by omega, by omega, fun h => by omega, rfl⟩
          case round =>
            obtain ⟨m, hm1, hm2, hm3, rfl⟩ := hrel
            have db := dbm_in y' m
            by_cases hm : 1 < m
            · by_cases ht : d + 719528 - dby y' < dbm y' m
              · go_wp2_with (go_at_call 10; refine (month_days_any _ _ _ (by omega) (by omega) (by omega) (by omega)).mono ?_; rintro e w' ⟨rfl, rfl⟩)
                go_round
                case rel => exact ⟨m - 1, by omega, by omega, fun _ => by rw [show m - 1 + 1 = m by omega]; exact ht, rfl⟩
                case measure => simp [intOf]; omega
              · have hf : Hid (Holds (d + 719528) (12 * y' + m - 1)) := found hy3 hm1 hm2 (by omega) hm3.out
                go_wp2_with (go_at_call 10; refine (month_days_any _ _ _ (by omega) (by omega) (by omega) (by omega)).mono ?_; rintro e w' ⟨rfl, rfl⟩)
                go_ret
                exact ⟨12 * y' + m - 1, rfl, hf.out, by omega, by omega, rfl⟩
            · obtain rfl : m = 1 := by omega
              have hf : Hid (Holds (d + 719528) (12 * y' + 1 - 1)) := found hy3 (by omega) (by omega) (by rw [dbm_one]; omega) hm3.out
              go_wp2_with fail
              go_ret
              exact ⟨12 * y' + 1 - 1, ret_i _ _ (by omega), hf.out, by omega, by omega, rfl⟩

end Go.Proofs.Qxb6629999a
