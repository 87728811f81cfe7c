/-
  Seat b6629999a: THE PLAIN CALENDAR: no Go in sight. 'dby y': the days before year y; 'tab m': the days before month m in a common year; 'F M': the first day of month M, counted from January of year 0.
-/
import Derived.Test.Qxb6629999aRows
namespace Go.Proofs.Qxb6629999a

def dby (y : Int) : Int := 365 * y + ((y + 3) / 4 - (y + 99) / 100 + (y + 399) / 400)
def lpB (y : Int) : Bool := decide (y % 4 = 0 ∧ (¬ y % 100 = 0 ∨ y % 400 = 0))
def lp (y : Int) : Int := if lpB y = true then 1 else 0
def tab (m : Int) : Int :=
  if m ≤ 1 then 0 else if m = 2 then 31 else if m = 3 then 59 else if m = 4 then 90 else if m = 5 then 120 else if m = 6 then 151 else
  if m = 7 then 181 else if m = 8 then 212 else if m = 9 then 243 else if m = 10 then 273 else if m = 11 then 304 else 334
def dbm (y m : Int) : Int := if 2 < m ∧ lpB y = true then tab m + 1 else tab m

theorem lp_01 (y : Int) : 0 ≤ lp y ∧ lp y ≤ 1 := by unfold lp; split <;> omega

theorem dby_succ (y : Int) : dby (y + 1) = dby y + 365 + lp y := by
  unfold dby lp lpB
  by_cases h4 : y % 4 = 0
  · by_cases h100 : y % 100 = 0
    · by_cases h400 : y % 400 = 0
      · simp [h4, h400]; omega
      · simp [h4, h100, h400]; omega
    · simp [h4, h100]; omega
  · simp [h4]; omega

/-- The reckoning's error: the year guessed by 'days * 400 / 146097' is at most one off. -/
theorem dby_lo (y : Int) : 146097 * y - 396 ≤ 400 * dby y := by unfold dby; omega
theorem dby_hi (y : Int) : 400 * dby y ≤ 146097 * y + 699 := by unfold dby; omega

theorem tab_in (m : Int) : 0 ≤ tab m ∧ tab m ≤ 334 := by
  unfold tab
  by_cases h1 : m ≤ 1
  · simp [h1]
  · by_cases h : m = 2 ∨ m = 3 ∨ m = 4 ∨ m = 5 ∨ m = 6 ∨ m = 7 ∨ m = 8 ∨ m = 9 ∨ m = 10 ∨ m = 11
    · rcases h with rfl | rfl | rfl | rfl | rfl | rfl | rfl | rfl | rfl | rfl <;> decide
    · have h2 : ¬ m = 2 ∧ ¬ m = 3 ∧ ¬ m = 4 ∧ ¬ m = 5 ∧ ¬ m = 6 ∧ ¬ m = 7 ∧ ¬ m = 8 ∧ ¬ m = 9 ∧ ¬ m = 10 ∧ ¬ m = 11 := by omega
      obtain ⟨a2, a3, a4, a5, a6, a7, a8, a9, a10, a11⟩ := h2
      simp [h1, a2, a3, a4, a5, a6, a7, a8, a9, a10, a11]

theorem dbm_in (y m : Int) : 0 ≤ dbm y m ∧ dbm y m ≤ 335 := by
  have := tab_in m
  unfold dbm
  split <;> omega

theorem dbm_one (y : Int) : dbm y 1 = 0 := by simp [dbm, tab]

theorem months {m : Int} (h1 : 1 ≤ m) (h2 : m ≤ 12) : m = 1 ∨ m = 2 ∨ m = 3 ∨ m = 4 ∨ m = 5 ∨ m = 6 ∨ m = 7 ∨ m = 8 ∨ m = 9 ∨ m = 10 ∨ m = 11 ∨ m = 12 := by omega

/-- The first day of month M, counted from January of year 0. -/
def F (M : Int) : Int := dby (M / 12) + dbm (M / 12) (M % 12 + 1)

theorem F_mk {y m : Int} (h1 : 1 ≤ m) (h2 : m ≤ 12) : F (12 * y + m - 1) = dby y + dbm y m := by
  unfold F
  have e1 : (12 * y + m - 1) / 12 = y := by omega
  have e2 : (12 * y + m - 1) % 12 + 1 = m := by omega
  rw [e1, e2]

theorem F_next {y m : Int} (h1 : 1 ≤ m) (h2 : m ≤ 12) : F (12 * y + m - 1 + 1) = if m = 12 then dby (y + 1) else dby y + dbm y (m + 1) := by
  by_cases e : m = 12
  · subst e
    have : (12 * y + 12 - 1 + 1 : Int) = 12 * (y + 1) + 1 - 1 := by omega
    rw [this, F_mk (by omega) (by omega), dbm_one]
    simp
  · rw [if_neg e]
    have : (12 * y + m - 1 + 1 : Int) = 12 * y + (m + 1) - 1 := by omega
    rw [this, F_mk (by omega) (by omega)]

theorem F_step (M : Int) : F M + 28 ≤ F (M + 1) ∧ F (M + 1) ≤ F M + 31 := by
  have hM : M = 12 * (M / 12) + (M % 12 + 1) - 1 := by omega
  have h1 : 1 ≤ M % 12 + 1 := by omega
  have h2 : M % 12 + 1 ≤ 12 := by omega
  generalize M / 12 = y at hM
  generalize M % 12 + 1 = m at hM h1 h2
  subst hM
  rw [F_mk h1 h2, F_next h1 h2]
  have hs := dby_succ y
  cases hb : lpB y
  · have hl : lp y = 0 := by simp [lp, hb]
    rcases months h1 h2 with rfl | rfl | rfl | rfl | rfl | rfl | rfl | rfl | rfl | rfl | rfl | rfl <;> simp [dbm, tab, hb] <;> omega
  · have hl : lp y = 1 := by simp [lp, hb]
    rcases months h1 h2 with rfl | rfl | rfl | rfl | rfl | rfl | rfl | rfl | rfl | rfl | rfl | rfl <;> simp [dbm, tab, hb] <;> omega

theorem F_mono (M : Int) : ∀ n : Nat, F M ≤ F (M + n)
  | 0 => by simp
  | n + 1 => by
    have h1 := F_mono M n
    have h2 := (F_step (M + n)).1
    have e : (M + ((n + 1 : Nat) : Int)) = M + n + 1 := by omega
    rw [e]
    omega

theorem F_le {M M' : Int} (h : M ≤ M') : F M ≤ F M' := by
  have := F_mono M (M' - M).toNat
  have e : M + ((M' - M).toNat : Int) = M' := by omega
  rwa [e] at this

/-- Day D lies in month M. -/
def Holds (D M : Int) : Prop := F M ≤ D ∧ D < F (M + 1)

theorem holds_uniq {D M M' : Int} (h : Holds D M) (h' : Holds D M') : M = M' := by
  obtain ⟨a, b⟩ := h
  obtain ⟨a', b'⟩ := h'
  have h1 : ¬ M < M' := fun hlt => by have := F_le (show M + 1 ≤ M' by omega); omega
  have h2 : ¬ M' < M := fun hlt => by have := F_le (show M' + 1 ≤ M by omega); omega
  omega

theorem holds_step {D M M' : Int} (h : Holds D M) (h' : Holds (D + 1) M') : M' - M = 0 ∨ M' - M = 1 := by
  obtain ⟨a, b⟩ := h
  obtain ⟨a', b'⟩ := h'
  have h1 : ¬ M' < M := fun hlt => by have := F_le (show M' + 1 ≤ M by omega); omega
  have h2 : ¬ M + 2 ≤ M' := fun hlt => by
    have h3 := F_le hlt
    have h4 := (F_step (M + 1)).1
    have e : M + 1 + 1 = M + 2 := by omega
    rw [e] at h4
    omega
  omega

theorem holds_jump {D M M' : Int} (h : Holds D M) (h' : Holds (D + 31) M') : M' - M = 1 ∨ M' - M = 2 := by
  obtain ⟨a, b⟩ := h
  obtain ⟨a', b'⟩ := h'
  have s1 := (F_step M).2
  have h1 : ¬ M' < M + 1 := fun hlt => by have := F_le (show M' + 1 ≤ M + 1 by omega); omega
  have h2 : ¬ M + 3 ≤ M' := fun hlt => by
    have h3 := F_le hlt
    have h4 := (F_step (M + 1)).1
    have h5 := (F_step (M + 2)).1
    have e : M + 1 + 1 = M + 2 := by omega
    have e' : M + 2 + 1 = M + 3 := by omega
    rw [e] at h4
    rw [e'] at h5
    omega
  omega

theorem lp_shift (y : Int) : lpB (y + 400) = lpB y := by
  unfold lpB
  have e4 : (y + 400) % 4 = y % 4 := by omega
  have e100 : (y + 400) % 100 = y % 100 := by omega
  have e400 : (y + 400) % 400 = y % 400 := by omega
  rw [e4, e100, e400]

theorem dby_shift (y : Int) : dby (y + 400) = dby y + 146097 := by unfold dby; omega

theorem F_shift (M : Int) : F (M + 4800) = F M + 146097 := by
  unfold F
  have e1 : (M + 4800) / 12 = M / 12 + 400 := by omega
  have e2 : (M + 4800) % 12 = M % 12 := by omega
  rw [e1, e2, dby_shift]
  unfold dbm
  rw [lp_shift]
  omega

theorem holds_shift {D M M' : Int} (h : Holds D M) (h' : Holds (D + 146097) M') : M' = M + 4800 := by
  apply holds_uniq h'
  obtain ⟨a, b⟩ := h
  have e1 := F_shift M
  have e2 := F_shift (M + 1)
  have e : M + 1 + 4800 = M + 4800 + 1 := by omega
  rw [e] at e2
  exact ⟨by omega, by omega⟩

end Go.Proofs.Qxb6629999a
