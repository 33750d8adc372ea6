/-
  The plain mathematics of the month lengths: no Go in sight. By an AI agent.
-/
namespace Go.Proofs.Qxb6603360a.Plain

/-- Days in a month, as the Go text says it. -/
def dim (y m : Int) : Int :=
  if m = 2 then (if y.tmod 4 = 0 ∧ (y.tmod 100 ≠ 0 ∨ y.tmod 400 = 0) then 29 else 28)
  else if m = 4 ∨ m = 6 ∨ m = 9 ∨ m = 11 then 30 else 31

theorem tm (y k : Int) (_h : 0 < k) : y.tmod k = 0 ↔ y % k = 0 := by
  rw [← Int.dvd_iff_tmod_eq_zero, ← Int.dvd_iff_emod_eq_zero]

/-- One where the year is a leap year, nought elsewhere. -/
def lp (y : Int) : Int := if y % 4 = 0 ∧ (y % 100 ≠ 0 ∨ y % 400 = 0) then 1 else 0

theorem dim_lp (y m : Int) : dim y m = if m = 2 then 28 + lp y else if m = 4 ∨ m = 6 ∨ m = 9 ∨ m = 11 then 30 else 31 := by
  unfold dim lp
  simp only [ne_eq, tm y 4 (by decide), tm y 100 (by decide), tm y 400 (by decide)]
  by_cases h : m = 2
  · simp only [if_pos h]; split <;> rfl
  · simp only [if_neg h]

theorem lp_01 (y : Int) : 0 ≤ lp y ∧ lp y ≤ 1 := by unfold lp; split <;> omega

theorem dim_bd (y m : Int) : 28 ≤ dim y m ∧ dim y m ≤ 31 := by
  have := lp_01 y
  rw [dim_lp]; split
  · omega
  · split <;> omega

theorem lp_period (y : Int) : lp (y + 400) = lp y := by
  unfold lp
  have a : (y + 400) % 4 = y % 4 := by omega
  have b : (y + 400) % 100 = y % 100 := by omega
  have c : (y + 400) % 400 = y % 400 := by omega
  rw [a, b, c]

theorem dim_period (y m : Int) : dim (y + 400) m = dim y m := by
  rw [dim_lp, dim_lp, lp_period]

/-- Leap years ahead of year y (up to a constant). -/
def lb (y : Int) : Int := (y + 3) / 4 - (y + 99) / 100 + (y + 399) / 400

theorem lb_succ (y : Int) : lb (y + 1) = lb y + lp y := by
  unfold lb lp; split <;> omega

/-- Days of the year's months ahead of month m. -/
def cum (y m : Int) : Int :=
  if m ≤ 1 then 0 else if m = 2 then 31 else
  (if m = 3 then 59 else if m = 4 then 90 else if m = 5 then 120 else if m = 6 then 151 else if m = 7 then 181 else if m = 8 then 212 else if m = 9 then 243 else if m = 10 then 273 else if m = 11 then 304 else if m = 12 then 334 else 365) + lp y

theorem cum_succ (y m : Int) (h1 : 1 ≤ m) (h2 : m ≤ 12) : cum y (m + 1) = cum y m + dim y m := by
  rw [dim_lp]
  have : m = 1 ∨ m = 2 ∨ m = 3 ∨ m = 4 ∨ m = 5 ∨ m = 6 ∨ m = 7 ∨ m = 8 ∨ m = 9 ∨ m = 10 ∨ m = 11 ∨ m = 12 := by omega
  rcases this with rfl | rfl | rfl | rfl | rfl | rfl | rfl | rfl | rfl | rfl | rfl | rfl <;> simp [cum] <;> omega

theorem cum_bd (y m : Int) : 0 ≤ cum y m ∧ cum y m ≤ 366 := by
  have := lp_01 y
  unfold cum
  repeat' split
  all_goals omega

/-- Days of the k years from year y on. -/
def run (y k : Int) : Int := 365 * k + lb (y + k) - lb y

theorem run_zero (y : Int) : run y 0 = 0 := by simp [run]
theorem run_succ (y k : Int) : run y (k + 1) = run y k + cum (y + k) 13 := by
  have h : y + (k + 1) = (y + k) + 1 := by omega
  have c : cum (y + k) 13 = 365 + lp (y + k) := by simp [cum]
  unfold run
  rw [h, lb_succ, c]; omega
theorem run_400 (y : Int) : run y 400 = 146097 := by unfold run lb; omega
theorem run_bd (y k : Int) (h : 0 ≤ k) (h2 : k ≤ 400): 0 ≤ run y k ∧ run y k ≤ 146500 := by unfold run lb; omega

/-- The civil day count, as the Go text says it, at a year from 1 on. -/
def dfc (y m d : Int) : Int :=
  if m ≤ 2 then ((y - 1) / 400) * 146097 + (((y - 1) - (y - 1) / 400 * 400) * 365 + ((y - 1) - (y - 1) / 400 * 400) / 4 - ((y - 1) - (y - 1) / 400 * 400) / 100 + ((153 * ((m + 9) % 12) + 2) / 5 + d - 1))
  else (y / 400) * 146097 + ((y - y / 400 * 400) * 365 + (y - y / 400 * 400) / 4 - (y - y / 400 * 400) / 100 + ((153 * ((m + 9) % 12) + 2) / 5 + d - 1))

/-- The year brought into [400, 800). -/
def yr (y : Int) : Int := y % 400 + 400

theorem yr_bd (y : Int) : 400 ≤ yr y ∧ yr y < 800 := by unfold yr; omega

theorem lp_yr (y : Int) : lp (yr y) = lp y := by
  unfold lp yr
  have a : (y % 400 + 400) % 4 = y % 4 := by omega
  have b : (y % 400 + 400) % 100 = y % 100 := by omega
  have c : (y % 400 + 400) % 400 = y % 400 := by omega
  rw [a, b, c]

theorem yr_tmod (y : Int) : yr y = (if y.tmod 400 < 0 then y.tmod 400 + 400 else y.tmod 400) + 400 := by
  unfold yr
  have h := Int.tmod_eq_emod (a := y) (b := 400)
  have n : ((Int.natAbs 400 : Nat) : Int) = 400 := rfl
  by_cases c : 0 ≤ y ∨ (400 : Int) ∣ y
  · rw [if_pos c] at h; split <;> omega
  · rw [if_neg c, n] at h; split <;> omega

theorem civil_12 (y : Int) (_h1 : 400 ≤ y) (_h2 : y < 800) : dfc (y + 1) 1 1 - dfc y 12 1 = 31 := by
  unfold dfc
  simp
  omega

theorem civil_2 (y : Int) (h1 : 400 ≤ y) (h2 : y < 800) : dfc y 3 1 - dfc y 2 1 = 28 + lp y := by
  unfold dfc lp
  simp
  split <;> omega

theorem civil (y m : Int) (h1 : 400 ≤ y) (h2 : y < 800) (m1 : 1 ≤ m) (m2 : m ≤ 11) : dfc y (m + 1) 1 - dfc y m 1 = dim y m := by
  rw [dim_lp]
  have : m = 1 ∨ m = 2 ∨ m = 3 ∨ m = 4 ∨ m = 5 ∨ m = 6 ∨ m = 7 ∨ m = 8 ∨ m = 9 ∨ m = 10 ∨ m = 11 := by omega
  rcases this with rfl | rfl | rfl | rfl | rfl | rfl | rfl | rfl | rfl | rfl | rfl
  · unfold dfc; simp; omega
  · exact civil_2 y h1 h2
  all_goals (unfold dfc; simp; omega)

theorem dim_yr (y m : Int) : dim (yr y) m = dim y m := by rw [dim_lp, dim_lp, lp_yr]

theorem dfc_bd (y m d : Int) (h1 : 1 ≤ y) (h2 : y ≤ 1000) (_m1 : 1 ≤ m) (_m2 : m ≤ 12) (_d1 : d = 1) : 0 ≤ dfc y m d ∧ dfc y m d ≤ 1000000 := by
  unfold dfc; split <;> omega

end Go.Proofs.Qxb6603360a.Plain
