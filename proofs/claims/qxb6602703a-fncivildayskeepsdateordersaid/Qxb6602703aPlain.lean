/-
  THE PLAIN LAWS: no Go in sight. The proleptic Gregorian calendar by floor division; digits by Horner's rule.
-/
namespace Go.Proofs.Qxb6602703a.Plain

/-- 1 where y is a leap year, else 0. -/
def lp (y : Int) : Int := if y % 4 = 0 ∧ (y % 100 ≠ 0 ∨ y % 400 = 0) then 1 else 0
/-- The days of month m of year y; 31 for any m that is no month. -/
def dim (y m : Int) : Int := if m = 2 then 28 + lp y else if m = 4 ∨ m = 6 ∨ m = 9 ∨ m = 11 then 30 else 31
/-- The leap years in [0, y) (negative below 0). -/
def lps (y : Int) : Int := (y + 3) / 4 - (y + 99) / 100 + (y + 399) / 400
/-- The days before 1 January of y, from 1 January of the year 0. -/
def dby (y : Int) : Int := 365 * y + lps y
/-- The days of year y before month m. -/
def cum (y m : Int) : Int :=
  if m ≤ 1 then 0 else if m = 2 then 31 else
    lp y + (if m = 3 then 59 else if m = 4 then 90 else if m = 5 then 120 else if m = 6 then 151 else if m = 7 then 181 else if m = 8 then 212
      else if m = 9 then 243 else if m = 10 then 273 else if m = 11 then 304 else if m = 12 then 334 else 365)
/-- The days from 1970-01-01 to the date. -/
def civ (y m d : Int) : Int := dby y + cum y m + d - 1 - 719528

theorem lp_01 (y : Int) : 0 ≤ lp y ∧ lp y ≤ 1 := by unfold lp; split <;> omega
theorem dim_bd (y m : Int) : 28 ≤ dim y m ∧ dim y m ≤ 31 := by have := lp_01 y; unfold dim; split <;> (try split) <;> omega
theorem lps_succ (y : Int) : lps (y + 1) = lps y + lp y := by unfold lps lp; split <;> omega
theorem dby_succ (y : Int) : dby (y + 1) = dby y + 365 + lp y := by unfold dby; rw [lps_succ]; omega
theorem lps_cycle (y : Int) : lps (y + 400) = lps y + 97 := by unfold lps; omega
theorem dby_cycle (y : Int) : dby (y + 400) = dby y + 146097 := by unfold dby; rw [lps_cycle]; omega

theorem month_cases {m : Int} (h1 : 1 ≤ m) (h2 : m ≤ 12) : m = 1 ∨ m = 2 ∨ m = 3 ∨ m = 4 ∨ m = 5 ∨ m = 6 ∨ m = 7 ∨ m = 8 ∨ m = 9 ∨ m = 10 ∨ m = 11 ∨ m = 12 := by omega

theorem cum_one (y : Int) : cum y 1 = 0 := by simp [cum]
theorem cum_thirteen (y : Int) : cum y 13 = 365 + lp y := by simp [cum]; omega
theorem cum_succ (y m : Int) (h1 : 1 ≤ m) (h2 : m ≤ 12) : cum y (m + 1) = cum y m + dim y m := by
  rcases month_cases h1 h2 with rfl | rfl | rfl | rfl | rfl | rfl | rfl | rfl | rfl | rfl | rfl | rfl <;> simp [cum, dim] <;> omega
theorem cum_bd (y m : Int) (h1 : 1 ≤ m) (h2 : m ≤ 12) : 0 ≤ cum y m ∧ cum y m + dim y m ≤ 365 + lp y := by
  have := lp_01 y
  rcases month_cases h1 h2 with rfl | rfl | rfl | rfl | rfl | rfl | rfl | rfl | rfl | rfl | rfl | rfl <;> simp [cum, dim] <;> omega
theorem cum_hi (y m : Int) : 0 ≤ cum y m ∧ cum y m ≤ 366 := by
  have := lp_01 y
  unfold cum; repeat' split
  all_goals omega
theorem cum_mono (y m n : Int) (h1 : 1 ≤ m) (h : m < n) (h2 : n ≤ 12) : cum y m + dim y m ≤ cum y n := by
  have := lp_01 y
  rcases month_cases h1 (show m ≤ 12 by omega) with rfl | rfl | rfl | rfl | rfl | rfl | rfl | rfl | rfl | rfl | rfl | rfl <;>
  rcases month_cases (show 1 ≤ n by omega) h2 with rfl | rfl | rfl | rfl | rfl | rfl | rfl | rfl | rfl | rfl | rfl | rfl <;>
  first | omega | (simp [cum, dim]; try omega)

theorem dby_mono (a b : Int) (h : a < b) : dby a + 365 + lp a ≤ dby b := by
  rw [← dby_succ]; unfold dby lps; omega
theorem dby_bd (a : Int) (h0 : 0 ≤ a) (h : a ≤ 10000) : 0 ≤ dby a ∧ dby a ≤ 3652425 := by unfold dby lps; omega
theorem dby_1970 : dby 1970 = 719528 := by decide

/-- civilDays' own formula, for a month past February. -/
theorem civ_late (y m d : Int) (h1 : 3 ≤ m) (h2 : m ≤ 12) :
    y / 400 * 146097 + ((y - y / 400 * 400) * 365 + (y - y / 400 * 400) / 4 - (y - y / 400 * 400) / 100 + ((153 * ((m + 9) % 12) + 2) / 5 + d - 1)) - 719468 = civ y m d := by
  unfold civ dby lps
  rcases month_cases (show 1 ≤ m by omega) h2 with rfl | rfl | rfl | rfl | rfl | rfl | rfl | rfl | rfl | rfl | rfl | rfl <;> first | omega | (simp [cum, lp]; split <;> omega)
/-- .. for January and February of a year past 0. -/
theorem civ_early (y m d : Int) (h1 : 1 ≤ m) (h2 : m ≤ 2) :
    (y - 1) / 400 * 146097 + (((y - 1) - (y - 1) / 400 * 400) * 365 + ((y - 1) - (y - 1) / 400 * 400) / 4 - ((y - 1) - (y - 1) / 400 * 400) / 100 + ((153 * ((m + 9) % 12) + 2) / 5 + d - 1)) - 719468 = civ y m d := by
  unfold civ dby lps
  rcases (show m = 1 ∨ m = 2 by omega) with rfl | rfl <;> simp [cum] <;> omega
/-- .. for January and February of the year 0. -/
theorem civ_zero (m d : Int) (h1 : 1 ≤ m) (h2 : m ≤ 2) :
    -1 * 146097 + (399 * 365 + 399 / 4 - 399 / 100 + ((153 * ((m + 9) % 12) + 2) / 5 + d - 1)) - 719468 = civ 0 m d := by
  unfold civ dby lps
  rcases (show m = 1 ∨ m = 2 by omega) with rfl | rfl <;> simp [cum] <;> omega

theorem civ_bd (y m d : Int) (h0 : 0 ≤ y) (h : y ≤ 10000) (b : Int) (h1 : -b ≤ d) (h2 : d ≤ b) : -b - 800000 ≤ civ y m d ∧ civ y m d ≤ b + 3000000 := by
  have := dby_bd y h0 h; have := cum_hi y m; unfold civ; omega
theorem civ_epoch : civ 1970 1 1 = 0 := by decide
theorem civ_gap (y m : Int) (h1 : 1 ≤ m) (h2 : m ≤ 11) : civ y (m + 1) 1 - civ y m 1 = dim y m := by
  have := cum_succ y m h1 (by omega); unfold civ; omega
theorem civ_gap_dec (y : Int) : civ (y + 1) 1 1 - civ y 12 1 = 31 := by
  unfold civ; rw [dby_succ, cum_one]; simp [cum]; omega
theorem dim_dec (y : Int) : dim y 12 = 31 := by simp [dim]

/-- A valid date's place in its year. -/
theorem doy_bd (y m d : Int) (h1 : 1 ≤ m) (h2 : m ≤ 12) (h3 : 1 ≤ d) (h4 : d ≤ dim y m) : 0 ≤ cum y m + d - 1 ∧ cum y m + d - 1 < 365 + lp y := by
  have := cum_bd y m h1 h2; omega
theorem civ_lt_year (y m d y' m' d' : Int) (h : y < y') (h1 : 1 ≤ m) (h2 : m ≤ 12) (h3 : 1 ≤ d) (h4 : d ≤ dim y m) (h1' : 1 ≤ m') (h2' : m' ≤ 12) (h3' : 1 ≤ d') (h4' : d' ≤ dim y' m') :
    civ y m d < civ y' m' d' := by
  have := doy_bd y m d h1 h2 h3 h4; have := doy_bd y' m' d' h1' h2' h3' h4'; have := dby_mono y y' h; unfold civ; omega
theorem civ_lt_month (y m d m' d' : Int) (h : m < m') (h1 : 1 ≤ m) (h4 : d ≤ dim y m) (h2' : m' ≤ 12) (h3' : 1 ≤ d') :
    civ y m d < civ y m' d' := by
  have := cum_mono y m m' h1 h h2'; unfold civ; omega
theorem civ_lt_day (y m d d' : Int) (h : d < d') : civ y m d < civ y m d' := by unfold civ; omega

end Go.Proofs.Qxb6602703a.Plain
