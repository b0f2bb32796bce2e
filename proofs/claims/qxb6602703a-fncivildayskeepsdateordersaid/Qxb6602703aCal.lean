/-
  THE CALENDAR'S GO FUNCTIONS, EACH BY A CONTRACT: daysIn, civilDays and their exports; zzLeapPlain, zzYearLen, zzMonthLen, zzLeapByCycle.
-/
import Derived.Test.Qxb6602703aProg
import Derived.WalkKit
import Derived.Test.Qxb6602703aPlain
namespace Go.Proofs.Qxb6602703a
open Go.RowKit

theorem ret_int {k : IntKind} {a b : Int} (h : a = b) : Ending.returned (.int k a) = .returned (.int k b) := by rw [h]
theorem ret_bool {a b : Bool} (h : a = b) : Ending.returned (.bool a) = .returned (.bool b) := by rw [h]

theorem tmod_zero (y k : Int) : (y.tmod k = 0) ↔ (y % k = 0) := by
  rw [← Int.dvd_iff_tmod_eq_zero, ← Int.dvd_iff_emod_eq_zero]
theorem eql_true {y k : Int} (h : y % k = 0) : (y.tmod k == 0) = true := by rw [beq_iff_eq]; exact (tmod_zero y k).2 h
theorem eql_false {y k : Int} (h : ¬ y % k = 0) : (y.tmod k == 0) = false := by rw [beq_eq_false_iff_ne]; exact fun e => h ((tmod_zero y k).1 e)
theorem neq_true {y k : Int} (h : ¬ y % k = 0) : (y.tmod k != 0) = true := by unfold bne; rw [eql_false h]; rfl
theorem neq_false {y k : Int} (h : y % k = 0) : (y.tmod k != 0) = false := by unfold bne; rw [eql_true h]; rfl

set_option maxHeartbeats 400000 in
/-- daysIn, for February. -/
theorem daysIn_feb (y : Int) (w : World) :
    Calls Try.prog 23 #[.int .i64 y, .int .i64 2] w fun e w' => e = .returned (.int .i64 (Plain.dim y 2)) ∧ w' = w := by
  by_cases h4 : y % 4 = 0
  · have e4 := eql_true h4
    by_cases h1 : y % 100 = 0
    · have e1 := neq_false h1
      by_cases h0 : y % 400 = 0
      · have e0 := eql_true h0
        have HD : Plain.dim y 2 = 29 := by simp [Plain.dim, Plain.lp, h4, h0]
        rw [HD]
        clear h4 h1 h0 HD
        go_enter Try.func23, Try.ntmps23
        go_wp2
        go_ret
        exact ⟨rfl, rfl⟩
      · have e0 := eql_false h0
        have HD : Plain.dim y 2 = 28 := by simp [Plain.dim, Plain.lp, h1, h0]
        rw [HD]
        clear h4 h1 h0 HD
        go_enter Try.func23, Try.ntmps23
        go_wp2
        go_ret
        exact ⟨rfl, rfl⟩
    · have e1 := neq_true h1
      have HD : Plain.dim y 2 = 29 := by simp [Plain.dim, Plain.lp, h4, h1]
      rw [HD]
      clear h4 h1 HD
      go_enter Try.func23, Try.ntmps23
      go_wp2
      go_ret
      exact ⟨rfl, rfl⟩
  · have e4 := eql_false h4
    have HD : Plain.dim y 2 = 28 := by simp [Plain.dim, Plain.lp, h4]
    rw [HD]
    clear h4 HD
    go_enter Try.func23, Try.ntmps23
    go_wp2
    go_ret
    exact ⟨rfl, rfl⟩

set_option maxHeartbeats 400000 in
/-- daysIn, for every year and month. -/
theorem daysIn_any (y m : Int) (w : World) :
    Calls Try.prog 23 #[.int .i64 y, .int .i64 m] w fun e w' => e = .returned (.int .i64 (Plain.dim y m)) ∧ w' = w := by
  by_cases h2 : m = 2
  · subst h2; exact daysIn_feb y w
  by_cases h30 : m = 4 ∨ m = 6 ∨ m = 9 ∨ m = 11
  · have HD : Plain.dim y m = 30 := by simp [Plain.dim, h2, h30]
    rw [HD]
    clear HD
    rcases h30 with rfl | rfl | rfl | rfl
    all_goals
      clear h2
      go_enter Try.func23, Try.ntmps23
      go_wp2
      go_ret
      exact ⟨rfl, rfl⟩
  · have HD : Plain.dim y m = 31 := by simp [Plain.dim, h2, h30]
    rw [HD]
    have e2 : (m == 2) = false := by rw [beq_eq_false_iff_ne]; exact h2
    have e4 : (m == 4) = false := by rw [beq_eq_false_iff_ne]; omega
    have e6 : (m == 6) = false := by rw [beq_eq_false_iff_ne]; omega
    have e9 : (m == 9) = false := by rw [beq_eq_false_iff_ne]; omega
    have e11 : (m == 11) = false := by rw [beq_eq_false_iff_ne]; omega
    clear HD h2 h30
    go_enter Try.func23, Try.ntmps23
    go_wp2
    go_ret
    exact ⟨rfl, rfl⟩

/-- ZZdaysIn hands daysIn on. -/
theorem zdaysIn_any (y m : Int) (w : World) :
    Calls Try.prog 18 #[.int .i64 y, .int .i64 m] w fun e w' => e = .returned (.int .i64 (Plain.dim y m)) ∧ w' = w := by
  go_enter Try.func18, Try.ntmps18
  go_wp2_with (go_at_call 23; refine (daysIn_any _ _ _).mono ?_; rintro e w' ⟨rfl, rfl⟩)
  go_ret
  exact ⟨rfl, rfl⟩

/-- Is y a leap year? -/
def lpB (y : Int) : Bool := Plain.lp y == 1

/-- zzLeapPlain, for every year. -/
theorem leapPlain_any (y : Int) (w : World) :
    Calls Try.prog 25 #[.int .i64 y] w fun e w' => e = .returned (.bool (lpB y)) ∧ w' = w := by
  by_cases h4 : y % 4 = 0
  · have e4 := eql_true h4
    by_cases h1 : y % 100 = 0
    · have e1 := eql_true h1
      by_cases h0 : y % 400 = 0
      · have e0 := neq_false h0
        have HD : lpB y = true := by simp [lpB, Plain.lp, h4, h0]
        rw [HD]
        clear h4 h1 h0 HD
        go_enter Try.func25, Try.ntmps25
        go_wp2
        go_ret
        exact ⟨rfl, rfl⟩
      · have e0 := neq_true h0
        have HD : lpB y = false := by simp [lpB, Plain.lp, h1, h0]
        rw [HD]
        clear h4 h1 h0 HD
        go_enter Try.func25, Try.ntmps25
        go_wp2
        go_ret
        exact ⟨rfl, rfl⟩
    · have e1 := eql_false h1
      have HD : lpB y = true := by simp [lpB, Plain.lp, h4, h1]
      rw [HD]
      clear h4 h1 HD
      go_enter Try.func25, Try.ntmps25
      go_wp2
      go_ret
      exact ⟨rfl, rfl⟩
  · have e4 := eql_false h4
    have HD : lpB y = false := by simp [lpB, Plain.lp, h4]
    rw [HD]
    clear h4 HD
    go_enter Try.func25, Try.ntmps25
    go_wp2
    go_ret
    exact ⟨rfl, rfl⟩

theorem lp_of_true {y : Int} (h : lpB y = true) : Plain.lp y = 1 := by simpa [lpB] using h
theorem lp_of_false {y : Int} (h : lpB y = false) : Plain.lp y = 0 := by have := Plain.lp_01 y; simp [lpB] at h; omega

/-- zzYearLen. -/
theorem yearLen_any (y : Int) (w : World) :
    Calls Try.prog 20 #[.int .i64 y] w fun e w' => e = .returned (.int .i64 (365 + Plain.lp y)) ∧ w' = w := by
  by_cases h : lpB y = true
  · rw [lp_of_true h]
    go_enter Try.func20, Try.ntmps20
    go_wp2_with (go_at_call 25; refine (leapPlain_any _ _).mono ?_; rintro e w' ⟨rfl, rfl⟩)
    go_ret
    exact ⟨rfl, rfl⟩
  · have h' : lpB y = false := by simpa using h
    rw [lp_of_false h']
    clear h
    go_enter Try.func20, Try.ntmps20
    go_wp2_with (go_at_call 25; refine (leapPlain_any _ _).mono ?_; rintro e w' ⟨rfl, rfl⟩)
    go_ret
    exact ⟨rfl, rfl⟩

set_option maxHeartbeats 400000 in
/-- zzMonthLen, for the twelve months. -/
theorem monthLen_any (y m : Int) (h1 : 1 ≤ m) (h2 : m ≤ 12) (w : World) :
    Calls Try.prog 21 #[.int .i64 y, .int .i64 m] w fun e w' => e = .returned (.int .i64 (Plain.dim y m)) ∧ w' = w := by
  rcases Plain.month_cases h1 h2 with rfl | rfl | rfl | rfl | rfl | rfl | rfl | rfl | rfl | rfl | rfl | rfl
  case inr.inl =>
    clear h1 h2
    by_cases h : lpB y = true
    · have HD : Plain.dim y 2 = 29 := by simp [Plain.dim, lp_of_true h]
      rw [HD]; clear HD
      go_enter Try.func21, Try.ntmps21
      go_wp2_with (go_at_call 25; refine (leapPlain_any _ _).mono ?_; rintro e w' ⟨rfl, rfl⟩)
      go_ret
      exact ⟨rfl, rfl⟩
    · have h' : lpB y = false := by simpa using h
      have HD : Plain.dim y 2 = 28 := by simp [Plain.dim, lp_of_false h']
      rw [HD]; clear HD h
      go_enter Try.func21, Try.ntmps21
      go_wp2_with (go_at_call 25; refine (leapPlain_any _ _).mono ?_; rintro e w' ⟨rfl, rfl⟩)
      go_ret
      exact ⟨rfl, rfl⟩
  all_goals
    clear h1 h2
    go_enter Try.func21, Try.ntmps21
    go_wp2
    go_ret
    exact ⟨ret_int (by simp [Plain.dim]), rfl⟩

theorem cyc_rem (y : Int) : (0 ≤ y.tmod 400 ∧ y.tmod 400 = y % 400) ∨ (y.tmod 400 < 0 ∧ y.tmod 400 + 400 = y % 400) := by
  have e := Int.tmod_eq_emod (a := y) (b := 400)
  have b := Int.emod_nonneg y (show (400 : Int) ≠ 0 by decide)
  have c := Int.emod_lt_of_pos y (show (0 : Int) < 400 by decide)
  by_cases h : 0 ≤ y ∨ (400 : Int) ∣ y
  · rw [if_pos h] at e; left; omega
  · rw [if_neg h] at e
    have h4 : ((Int.natAbs 400 : Nat) : Int) = 400 := rfl
    have : y % 400 ≠ 0 := fun h0 => h (.inr (Int.dvd_of_emod_eq_zero h0))
    right; omega
/-- What zzLeapByCycle answers of the year's place in the cycle. -/
def cycB (q : Int) : Bool := decide (q % 4 = 0 ∧ q ≠ 100 ∧ q ≠ 200 ∧ q ≠ 300)
theorem cyc_lp (y : Int) : cycB (y % 400) = lpB y := by
  unfold cycB lpB Plain.lp
  by_cases h : y % 400 % 4 = 0 ∧ y % 400 ≠ 100 ∧ y % 400 ≠ 200 ∧ y % 400 ≠ 300
  · rw [decide_eq_true h, if_pos (by omega)]; rfl
  · rw [decide_eq_false h, if_neg (by omega)]; rfl
set_option maxHeartbeats 400000 in
/-- .. where the remainder is not negative. -/
theorem leapCyc_pos (y r : Int) (hr : y.tmod 400 = r) (h0 : 0 ≤ r) (h4 : r < 400) (w : World) :
    Calls Try.prog 17 #[.int .i64 y] w fun e w' => e = .returned (.bool (cycB r)) ∧ w' = w := by
  by_cases c4 : r % 4 = 0
  · have e4 : (r % 4 == 0) = true := by rw [beq_iff_eq]; exact c4
    by_cases c : r = 100 ∨ r = 200 ∨ r = 300
    · have HD : cycB r = false := decide_eq_false (by omega)
      rw [HD]; clear HD
      rcases c with rfl | rfl | rfl
      all_goals
        clear e4 c4 h0 h4
        go_enter Try.func17, Try.ntmps17
        go_wp2
        go_ret
        exact ⟨rfl, rfl⟩
    · have HD : cycB r = true := decide_eq_true (by omega)
      rw [HD]; clear HD
      have e1 : (r != 100) = true := by simp; omega
      have e2 : (r != 200) = true := by simp; omega
      have e3 : (r != 300) = true := by simp; omega
      clear c c4
      go_enter Try.func17, Try.ntmps17
      go_wp2
      go_ret
      exact ⟨rfl, rfl⟩
  · have e4 : (r % 4 == 0) = false := by rw [beq_eq_false_iff_ne]; exact c4
    have HD : cycB r = false := decide_eq_false (by omega)
    rw [HD]; clear HD c4
    go_enter Try.func17, Try.ntmps17
    go_wp2
    go_ret
    exact ⟨rfl, rfl⟩
set_option maxHeartbeats 400000 in
/-- .. where it is negative. -/
theorem leapCyc_neg (y r : Int) (hr : y.tmod 400 = r) (h0 : r < 0) (h4 : -400 ≤ r) (w : World) :
    Calls Try.prog 17 #[.int .i64 y] w fun e w' => e = .returned (.bool (cycB (r + 400))) ∧ w' = w := by
  by_cases c4 : (r + 400) % 4 = 0
  · have e4 : ((r + 400) % 4 == 0) = true := by rw [beq_iff_eq]; exact c4
    by_cases c : r = -300 ∨ r = -200 ∨ r = -100
    · have HD : cycB (r + 400) = false := decide_eq_false (by omega)
      rw [HD]; clear HD
      rcases c with rfl | rfl | rfl
      all_goals
        clear e4 c4 h0 h4
        go_enter Try.func17, Try.ntmps17
        go_wp2
        go_ret
        exact ⟨rfl, rfl⟩
    · have HD : cycB (r + 400) = true := decide_eq_true (by omega)
      rw [HD]; clear HD
      have e1 : (r + 400 != 100) = true := by simp; omega
      have e2 : (r + 400 != 200) = true := by simp; omega
      have e3 : (r + 400 != 300) = true := by simp; omega
      clear c c4
      go_enter Try.func17, Try.ntmps17
      go_wp2
      go_ret
      exact ⟨rfl, rfl⟩
  · have e4 : ((r + 400) % 4 == 0) = false := by rw [beq_eq_false_iff_ne]; exact c4
    have HD : cycB (r + 400) = false := decide_eq_false (by omega)
    rw [HD]; clear HD c4
    go_enter Try.func17, Try.ntmps17
    go_wp2
    go_ret
    exact ⟨rfl, rfl⟩
/-- zzLeapByCycle, for every year. -/
theorem leapCyc_any (y : Int) (w : World) :
    Calls Try.prog 17 #[.int .i64 y] w fun e w' => e = .returned (.bool (lpB y)) ∧ w' = w := by
  have b := Int.emod_nonneg y (show (400 : Int) ≠ 0 by decide)
  have c := Int.emod_lt_of_pos y (show (0 : Int) < 400 by decide)
  rw [← cyc_lp]
  rcases cyc_rem y with ⟨h1, h2⟩ | ⟨h1, h2⟩
  · rw [← h2]; exact leapCyc_pos y _ rfl h1 (by omega) w
  · rw [← h2]; exact leapCyc_neg y _ rfl h1 (by omega) w

set_option maxHeartbeats 400000 in
/-- civilDays, for a month past February. -/
theorem civil_late (y m d : Int) (h0 : 0 ≤ y) (h9 : y ≤ 9999) (h1 : 3 ≤ m) (h2 : m ≤ 12) (hd : -1099511627776 ≤ d) (hd' : d ≤ 1099511627776) (w : World) :
    Calls Try.prog 24 #[.int .i64 y, .int .i64 m, .int .i64 d] w fun e w' => e = .returned (.int .i64 (Plain.civ y m d)) ∧ w' = w := by
  go_enter Try.func24, Try.ntmps24
  go_wp2
  go_ret
  exact ⟨ret_int (Plain.civ_late y m d h1 h2), rfl⟩
set_option maxHeartbeats 400000 in
/-- .. for January and February past the year 0. -/
theorem civil_early (y m d : Int) (h0 : 1 ≤ y) (h9 : y ≤ 9999) (h1 : 1 ≤ m) (h2 : m ≤ 2) (hd : -1099511627776 ≤ d) (hd' : d ≤ 1099511627776) (w : World) :
    Calls Try.prog 24 #[.int .i64 y, .int .i64 m, .int .i64 d] w fun e w' => e = .returned (.int .i64 (Plain.civ y m d)) ∧ w' = w := by
  go_enter Try.func24, Try.ntmps24
  go_wp2
  go_ret
  exact ⟨ret_int (Plain.civ_early y m d h1 h2), rfl⟩
set_option maxHeartbeats 400000 in
/-- .. for January and February of the year 0. -/
theorem civil_zero (m d : Int) (h1 : 1 ≤ m) (h2 : m ≤ 2) (hd : -1099511627776 ≤ d) (hd' : d ≤ 1099511627776) (w : World) :
    Calls Try.prog 24 #[.int .i64 0, .int .i64 m, .int .i64 d] w fun e w' => e = .returned (.int .i64 (Plain.civ 0 m d)) ∧ w' = w := by
  go_enter Try.func24, Try.ntmps24
  go_wp2
  go_ret
  exact ⟨ret_int (Plain.civ_zero m d h1 h2), rfl⟩
/-- civilDays, for every date of the years 0 to 9999, and day numbers far beyond a month's. -/
theorem civil_any (y m d : Int) (h0 : 0 ≤ y) (h9 : y ≤ 9999) (h1 : 1 ≤ m) (h2 : m ≤ 12) (hd : -1099511627776 ≤ d) (hd' : d ≤ 1099511627776) (w : World) :
    Calls Try.prog 24 #[.int .i64 y, .int .i64 m, .int .i64 d] w fun e w' => e = .returned (.int .i64 (Plain.civ y m d)) ∧ w' = w := by
  by_cases hm : m ≤ 2
  · by_cases hy : y = 0
    · subst hy; exact civil_zero m d h1 hm hd hd' w
    · exact civil_early y m d (by omega) h9 h1 hm hd hd' w
  · exact civil_late y m d h0 h9 (by omega) h2 hd hd' w
/-- ZZcivilDays hands civilDays on. -/
theorem zcivil_any (y m d : Int) (h0 : 0 ≤ y) (h9 : y ≤ 9999) (h1 : 1 ≤ m) (h2 : m ≤ 12) (hd : -1099511627776 ≤ d) (hd' : d ≤ 1099511627776) (w : World) :
    Calls Try.prog 19 #[.int .i64 y, .int .i64 m, .int .i64 d] w fun e w' => e = .returned (.int .i64 (Plain.civ y m d)) ∧ w' = w := by
  go_enter Try.func19, Try.ntmps19
  go_wp2_with (go_at_call 24; refine (civil_any _ _ _ h0 h9 h1 h2 hd hd' _).mono ?_; rintro e w' ⟨rfl, rfl⟩)
  go_ret
  exact ⟨rfl, rfl⟩
end Go.Proofs.Qxb6602703a
