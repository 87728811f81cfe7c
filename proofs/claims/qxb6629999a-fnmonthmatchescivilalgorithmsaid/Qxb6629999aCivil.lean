/-
  Seat b6629999a: THE ERA-BASED RECKONING, in plain integers: it finds the month in which the day lies.
-/
import Derived.Test.Qxb6629999aPlain
namespace Go.Proofs.Qxb6629999a

/-- The numerator of the year of the era. -/
def fy (n : Int) : Int := n - n / 1460 + n / 36524 - n / 146096
/-- The days of the era before its year Y. -/
def sy (Y : Int) : Int := 365 * Y + Y / 4 - Y / 100 + Y / 400

theorem fy_step (n : Int) : fy n ≤ fy (n + 1) := by unfold fy; omega

theorem fy_mono (n : Int) : ∀ k : Nat, fy n ≤ fy (n + k)
  | 0 => by simp
  | k + 1 => by
    have h1 := fy_mono n k
    have h2 := fy_step (n + k)
    have e : (n + ((k + 1 : Nat) : Int)) = n + k + 1 := by omega
    rw [e]
    omega

theorem fy_le {n n' : Int} (h : n ≤ n') : fy n ≤ fy n' := by
  have := fy_mono n (n' - n).toNat
  have e : n + ((n' - n).toNat : Int) = n' := by omega
  rwa [e] at this

theorem year_table : ∀ Y : Nat, Y < 401 → (Y < 400 → 365 * (Y : Int) ≤ fy (sy Y)) ∧ (0 < Y → fy (sy Y - 1) < 365 * (Y : Int)) := by decide +kernel

theorem year_of {n : Int} (h0 : 0 ≤ n) (h1 : n ≤ 146096) : 0 ≤ fy n / 365 ∧ fy n / 365 ≤ 399 ∧ sy (fy n / 365) ≤ n ∧ n < sy (fy n / 365 + 1) := by
  have a0 := fy_le h0
  have a1 := fy_le h1
  have b0 : fy 0 = 0 := by decide
  have b1 : fy 146096 = 145999 := by decide +kernel
  rw [b0] at a0
  rw [b1] at a1
  have c0 : 0 ≤ fy n / 365 := by omega
  have c1 : fy n / 365 ≤ 399 := by omega
  obtain ⟨Y, hY⟩ : ∃ Y : Nat, (Y : Int) = fy n / 365 := ⟨(fy n / 365).toNat, by omega⟩
  rw [← hY] at c0 c1 ⊢
  refine ⟨c0, c1, ?_, ?_⟩
  · by_cases hz : Y = 0
    · subst hz
      have : sy ((0 : Nat) : Int) = 0 := by decide
      omega
    · have t := (year_table Y (by omega)).2 (by omega)
      rcases Int.lt_or_le n (sy Y) with h | h
      · have := fy_le (show n ≤ sy Y - 1 by omega)
        omega
      · exact h
  · by_cases hz : Y = 399
    · subst hz
      have : sy (((399 : Nat) : Int) + 1) = 146097 := by decide +kernel
      omega
    · have t := (year_table (Y + 1) (by omega)).1 (by omega)
      rcases Int.lt_or_le n (sy ((Y : Int) + 1)) with h | h
      · exact h
      · have := fy_le h
        have e : ((Y + 1 : Nat) : Int) = (Y : Int) + 1 := by omega
        rw [e] at t
        omega

theorem sy_era (Y e : Int) : sy (Y + 400 * e) = sy Y + 146097 * e := by unfold sy; omega

theorem march (y : Int) : dby y + lp y = sy y + 1 := by
  unfold dby lp lpB sy
  by_cases h4 : y % 4 = 0
  · by_cases h100 : y % 100 = 0
    · by_cases h400 : y % 400 = 0
      · simp [h4, h400]; omega
      · simp [h4, h100, h400]; omega
    · simp [h4, h100]; omega
  · simp [h4]; omega

theorem january (y : Int) : dby (y + 1) = sy y + 366 := by unfold dby sy; omega

theorem dbm_late (y m : Int) (h : 2 < m) : dbm y m = tab m + lp y := by
  unfold dbm lp
  cases hb : lpB y <;> simp [h]

/-- The month by the era-based reckoning, of the day z counted from March 1 of year 0. -/
def civ (z : Int) : Int :=
  let era := z / 146097
  let doe := z - era * 146097
  let yoe := fy doe / 365
  let doy := doe - (365 * yoe + yoe / 4 - yoe / 100)
  let mp := (5 * doy + 2) / 153
  if 10 ≤ mp then 12 * (yoe + era * 400 + 1) + (mp - 9) - 1 else 12 * (yoe + era * 400) + (mp + 3) - 1

/-- The months from March on, and the two behind them. -/
theorem month_of (y q : Int) (h0 : 0 ≤ q) (h1 : q < sy (y + 1) - sy y) :
    Holds (sy y + 60 + q) (if 10 ≤ (5 * q + 2) / 153 then 12 * (y + 1) + ((5 * q + 2) / 153 - 9) - 1 else 12 * y + ((5 * q + 2) / 153 + 3) - 1) := by
  have m0 := march y
  have m1 := march (y + 1)
  have j0 := january y
  have hq : q ≤ 365 := by unfold sy at h1; omega
  have hp : (5 * q + 2) / 153 = 0 ∨ (5 * q + 2) / 153 = 1 ∨ (5 * q + 2) / 153 = 2 ∨ (5 * q + 2) / 153 = 3 ∨ (5 * q + 2) / 153 = 4 ∨ (5 * q + 2) / 153 = 5 ∨ (5 * q + 2) / 153 = 6 ∨ (5 * q + 2) / 153 = 7 ∨ (5 * q + 2) / 153 = 8 ∨ (5 * q + 2) / 153 = 9 ∨ (5 * q + 2) / 153 = 10 ∨ (5 * q + 2) / 153 = 11 := by omega
  rcases hp with e | e | e | e | e | e | e | e | e | e | e | e
  all_goals
    rw [e]
    refine ⟨?_, ?_⟩
  all_goals first
    | (rw [if_neg (by omega), F_mk (by omega) (by omega), dbm_late _ _ (by omega)]; simp [tab]; omega)
    | (rw [if_neg (by omega), F_next (by omega) (by omega), if_neg (by omega), dbm_late _ _ (by omega)]; simp [tab]; omega)
    | (rw [if_neg (by omega), F_next (by omega) (by omega), if_pos (by omega)]; omega)
    | (rw [if_pos (by omega), F_mk (by omega) (by omega)]; simp [dbm, tab]; omega)
    | (rw [if_pos (by omega), F_next (by omega) (by omega), if_neg (by omega), dbm_late _ _ (by omega)]; simp [tab]; omega)
    | (rw [if_pos (by omega), F_next (by omega) (by omega), if_neg (by omega)]; simp [dbm, tab]; omega)

theorem civ_holds (z : Int) : Holds (z + 60) (civ z) := by
  have hd0 : 0 ≤ z - z / 146097 * 146097 := by omega
  have hd1 : z - z / 146097 * 146097 ≤ 146096 := by omega
  obtain ⟨y0, y1, s0, s1⟩ := year_of hd0 hd1
  unfold civ
  simp only []
  have hz : z = 146097 * (z / 146097) + (z - z / 146097 * 146097) := by omega
  generalize z - z / 146097 * 146097 = n at *
  generalize z / 146097 = era at *
  generalize fy n / 365 = Y at *
  have e0 : 365 * Y + Y / 4 - Y / 100 = sy Y := by unfold sy; omega
  rw [e0]
  have e1 := sy_era Y era
  have e2 := sy_era (Y + 1) era
  have e3 : Y + 1 + 400 * era = Y + 400 * era + 1 := by omega
  rw [e3] at e2
  have h := month_of (Y + 400 * era) (n - sy Y) (by omega) (by omega)
  have e4 : sy (Y + 400 * era) + 60 + (n - sy Y) = z + 60 := by omega
  rw [e4] at h
  have e5 : Y + era * 400 = Y + 400 * era := by omega
  rw [e5]
  exact h

end Go.Proofs.Qxb6629999a
