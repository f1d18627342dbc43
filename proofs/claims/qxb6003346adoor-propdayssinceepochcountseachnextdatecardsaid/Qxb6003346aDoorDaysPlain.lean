/-
  The plain law of the days: no Go in sight.
-/
import Derived.WalkKit
namespace Go.Proofs.Qxb6003346aDoor.Days

/-- A leap year of the proleptic Gregorian calendar. -/
def leap (y : Int) : Bool := decide (y % 4 = 0 ∧ (¬ y % 100 = 0 ∨ y % 400 = 0))

/-- The days of a month. -/
def dim (y m : Int) : Int := if m = 2 then (if leap y = true then 29 else 28) else if m = 4 ∨ m = 6 ∨ m = 9 ∨ m = 11 then 30 else 31

/-- The year counted from March, from year -400 on. -/
def yr (y m : Int) : Int := (if m < 3 then y - 1 else y) + 400

/-- The days since 1970-01-01. -/
def days (y m d : Int) : Int :=
  yr y m / 400 * 146097 + (yr y m % 400 * 365 + yr y m % 400 / 4 - yr y m % 400 / 100 + ((153 * ((m + 9) % 12) + 2) / 5 + d - 1)) - 146097 - 719468

theorem leap_iff (y : Int) : leap y = true ↔ (y % 4 = 0 ∧ (¬ y % 100 = 0 ∨ y % 400 = 0)) := by simp [leap]

theorem dim_bounds (y m : Int) : 28 ≤ dim y m ∧ dim y m ≤ 31 := by
  unfold dim
  split
  · split <;> omega
  · split <;> omega

theorem yr_bounds (y m : Int) (h0 : 0 ≤ y) (h1 : y ≤ 10000) : 399 ≤ yr y m ∧ yr y m ≤ 10400 := by
  unfold yr
  split <;> omega

theorem days_bounds (y m d : Int) (h0 : 0 ≤ y) (h1 : y ≤ 10000) (d0 : 1 ≤ d) (d1 : d ≤ 31) : -1000000 ≤ days y m d ∧ days y m d ≤ 5000000 := by
  have := yr_bounds y m h0 h1
  unfold days
  omega

theorem days_epoch : days 1970 1 1 = 0 := by decide

theorem days_day (y m d : Int) : days y m (d + 1) = days y m d + 1 := by
  unfold days
  omega

theorem days_year (y : Int) : days (y + 1) 1 1 = days y 12 31 + 1 := by
  unfold days yr
  simp
  omega

theorem days_month (y m : Int) (h1 : 1 ≤ m) (h2 : m < 12) : days y (m + 1) 1 = days y m (dim y m) + 1 := by
  have hm : m = 1 ∨ m = 2 ∨ m = 3 ∨ m = 4 ∨ m = 5 ∨ m = 6 ∨ m = 7 ∨ m = 8 ∨ m = 9 ∨ m = 10 ∨ m = 11 := by omega
  by_cases e : m = 2
  · subst e
    by_cases hl : leap y = true
    · have := (leap_iff y).1 hl
      unfold days yr dim
      simp [hl]
      omega
    · have hl' : ¬ (y % 4 = 0 ∧ (¬ y % 100 = 0 ∨ y % 400 = 0)) := fun q => hl ((leap_iff y).2 q)
      unfold days yr dim
      simp [hl]
      omega
  · unfold days yr dim
    rcases hm with rfl | rfl | rfl | rfl | rfl | rfl | rfl | rfl | rfl | rfl | rfl
    all_goals first | (exact absurd rfl e) | (simp; omega) | simp

end Go.Proofs.Qxb6003346aDoor.Days
