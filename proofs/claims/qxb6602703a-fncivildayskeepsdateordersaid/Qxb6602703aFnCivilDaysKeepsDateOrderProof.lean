/-
  THE PROOF OF 'Rows.FnCivilDaysKeepsDateOrderSaid', in the frame that the guide's program wrote. Filled in: the walk.
-/
import Derived.Test.Qxb6602703aRows
import Derived.WalkKit
import Derived.ProofKit
import Derived.OpenShut
import Derived.ShutString
import Derived.Test.Qxb6602703aCal
namespace Go.Proofs.Qxb6602703a.fnCivilDaysKeepsDateOrder
open Go.ChangeShapes Go.WideShapes Go.ChangeAt Go.RowKit
open Go.ChangeMaps (open_string shut_string)
set_option linter.unusedVariables false      -- a walk need not use every 'w<i>' (that an integer argument fits its kind)

theorem own : ownKnob Try.prog.godebug = none := by kernel_rfl

theorem eqs {a b : Int} (h : a = b) : (a == b) = true := by rw [beq_iff_eq]; exact h
theorem nes {a b : Int} (h : ¬ a = b) : (a == b) = false := by rw [beq_eq_false_iff_ne]; exact h

/-! ### A date that is not valid: true at once -/
set_option maxHeartbeats 400000 in
theorem out0 (y1 m1 d1 y2 m2 d2 : Int)  (h : y1 < 0) (w : World) : Calls Try.prog 11 #[.int .i64 y1, .int .i64 m1, .int .i64 d1, .int .i64 y2, .int .i64 m2, .int .i64 d2] w fun e w' => e = .returned (.bool true) ∧ w' = w := by
  go_enter Try.func11, Try.ntmps11
  go_wp2_with (first | (go_at_call 21; refine (monthLen_any _ _ (by omega) (by omega) _).mono ?_; rintro e w' ⟨rfl, rfl⟩) | (go_at_call 19; refine (zcivil_any _ _ _ (by omega) (by omega) (by omega) (by omega) (by omega) (by omega) _).mono ?_; rintro e w' ⟨rfl, rfl⟩))
  go_ret
  exact ⟨rfl, rfl⟩
set_option maxHeartbeats 400000 in
theorem out1 (y1 m1 d1 y2 m2 d2 : Int) (a1 : 0 ≤ y1) (h : 9999 < y1) (w : World) : Calls Try.prog 11 #[.int .i64 y1, .int .i64 m1, .int .i64 d1, .int .i64 y2, .int .i64 m2, .int .i64 d2] w fun e w' => e = .returned (.bool true) ∧ w' = w := by
  go_enter Try.func11, Try.ntmps11
  go_wp2_with (first | (go_at_call 21; refine (monthLen_any _ _ (by omega) (by omega) _).mono ?_; rintro e w' ⟨rfl, rfl⟩) | (go_at_call 19; refine (zcivil_any _ _ _ (by omega) (by omega) (by omega) (by omega) (by omega) (by omega) _).mono ?_; rintro e w' ⟨rfl, rfl⟩))
  go_ret
  exact ⟨rfl, rfl⟩
set_option maxHeartbeats 400000 in
theorem out2 (y1 m1 d1 y2 m2 d2 : Int) (a1 : 0 ≤ y1) (a2 : y1 ≤ 9999) (h : m1 < 1) (w : World) : Calls Try.prog 11 #[.int .i64 y1, .int .i64 m1, .int .i64 d1, .int .i64 y2, .int .i64 m2, .int .i64 d2] w fun e w' => e = .returned (.bool true) ∧ w' = w := by
  go_enter Try.func11, Try.ntmps11
  go_wp2_with (first | (go_at_call 21; refine (monthLen_any _ _ (by omega) (by omega) _).mono ?_; rintro e w' ⟨rfl, rfl⟩) | (go_at_call 19; refine (zcivil_any _ _ _ (by omega) (by omega) (by omega) (by omega) (by omega) (by omega) _).mono ?_; rintro e w' ⟨rfl, rfl⟩))
  go_ret
  exact ⟨rfl, rfl⟩
set_option maxHeartbeats 400000 in
theorem out3 (y1 m1 d1 y2 m2 d2 : Int) (a1 : 0 ≤ y1) (a2 : y1 ≤ 9999) (a3 : 1 ≤ m1) (h : 12 < m1) (w : World) : Calls Try.prog 11 #[.int .i64 y1, .int .i64 m1, .int .i64 d1, .int .i64 y2, .int .i64 m2, .int .i64 d2] w fun e w' => e = .returned (.bool true) ∧ w' = w := by
  go_enter Try.func11, Try.ntmps11
  go_wp2_with (first | (go_at_call 21; refine (monthLen_any _ _ (by omega) (by omega) _).mono ?_; rintro e w' ⟨rfl, rfl⟩) | (go_at_call 19; refine (zcivil_any _ _ _ (by omega) (by omega) (by omega) (by omega) (by omega) (by omega) _).mono ?_; rintro e w' ⟨rfl, rfl⟩))
  go_ret
  exact ⟨rfl, rfl⟩
set_option maxHeartbeats 400000 in
theorem out4 (y1 m1 d1 y2 m2 d2 : Int) (a1 : 0 ≤ y1) (a2 : y1 ≤ 9999) (a3 : 1 ≤ m1) (a4 : m1 ≤ 12) (h : y2 < 0) (w : World) : Calls Try.prog 11 #[.int .i64 y1, .int .i64 m1, .int .i64 d1, .int .i64 y2, .int .i64 m2, .int .i64 d2] w fun e w' => e = .returned (.bool true) ∧ w' = w := by
  go_enter Try.func11, Try.ntmps11
  go_wp2_with (first | (go_at_call 21; refine (monthLen_any _ _ (by omega) (by omega) _).mono ?_; rintro e w' ⟨rfl, rfl⟩) | (go_at_call 19; refine (zcivil_any _ _ _ (by omega) (by omega) (by omega) (by omega) (by omega) (by omega) _).mono ?_; rintro e w' ⟨rfl, rfl⟩))
  go_ret
  exact ⟨rfl, rfl⟩
set_option maxHeartbeats 400000 in
theorem out5 (y1 m1 d1 y2 m2 d2 : Int) (a1 : 0 ≤ y1) (a2 : y1 ≤ 9999) (a3 : 1 ≤ m1) (a4 : m1 ≤ 12) (b1 : 0 ≤ y2) (h : 9999 < y2) (w : World) : Calls Try.prog 11 #[.int .i64 y1, .int .i64 m1, .int .i64 d1, .int .i64 y2, .int .i64 m2, .int .i64 d2] w fun e w' => e = .returned (.bool true) ∧ w' = w := by
  go_enter Try.func11, Try.ntmps11
  go_wp2_with (first | (go_at_call 21; refine (monthLen_any _ _ (by omega) (by omega) _).mono ?_; rintro e w' ⟨rfl, rfl⟩) | (go_at_call 19; refine (zcivil_any _ _ _ (by omega) (by omega) (by omega) (by omega) (by omega) (by omega) _).mono ?_; rintro e w' ⟨rfl, rfl⟩))
  go_ret
  exact ⟨rfl, rfl⟩
set_option maxHeartbeats 400000 in
theorem out6 (y1 m1 d1 y2 m2 d2 : Int) (a1 : 0 ≤ y1) (a2 : y1 ≤ 9999) (a3 : 1 ≤ m1) (a4 : m1 ≤ 12) (b1 : 0 ≤ y2) (b2 : y2 ≤ 9999) (h : m2 < 1) (w : World) : Calls Try.prog 11 #[.int .i64 y1, .int .i64 m1, .int .i64 d1, .int .i64 y2, .int .i64 m2, .int .i64 d2] w fun e w' => e = .returned (.bool true) ∧ w' = w := by
  go_enter Try.func11, Try.ntmps11
  go_wp2_with (first | (go_at_call 21; refine (monthLen_any _ _ (by omega) (by omega) _).mono ?_; rintro e w' ⟨rfl, rfl⟩) | (go_at_call 19; refine (zcivil_any _ _ _ (by omega) (by omega) (by omega) (by omega) (by omega) (by omega) _).mono ?_; rintro e w' ⟨rfl, rfl⟩))
  go_ret
  exact ⟨rfl, rfl⟩
set_option maxHeartbeats 400000 in
theorem out7 (y1 m1 d1 y2 m2 d2 : Int) (a1 : 0 ≤ y1) (a2 : y1 ≤ 9999) (a3 : 1 ≤ m1) (a4 : m1 ≤ 12) (b1 : 0 ≤ y2) (b2 : y2 ≤ 9999) (b3 : 1 ≤ m2) (h : 12 < m2) (w : World) : Calls Try.prog 11 #[.int .i64 y1, .int .i64 m1, .int .i64 d1, .int .i64 y2, .int .i64 m2, .int .i64 d2] w fun e w' => e = .returned (.bool true) ∧ w' = w := by
  go_enter Try.func11, Try.ntmps11
  go_wp2_with (first | (go_at_call 21; refine (monthLen_any _ _ (by omega) (by omega) _).mono ?_; rintro e w' ⟨rfl, rfl⟩) | (go_at_call 19; refine (zcivil_any _ _ _ (by omega) (by omega) (by omega) (by omega) (by omega) (by omega) _).mono ?_; rintro e w' ⟨rfl, rfl⟩))
  go_ret
  exact ⟨rfl, rfl⟩
set_option maxHeartbeats 400000 in
theorem out8 (y1 m1 d1 y2 m2 d2 : Int) (a1 : 0 ≤ y1) (a2 : y1 ≤ 9999) (a3 : 1 ≤ m1) (a4 : m1 ≤ 12) (b1 : 0 ≤ y2) (b2 : y2 ≤ 9999) (b3 : 1 ≤ m2) (b4 : m2 ≤ 12) (h : d1 < 1) (w : World) : Calls Try.prog 11 #[.int .i64 y1, .int .i64 m1, .int .i64 d1, .int .i64 y2, .int .i64 m2, .int .i64 d2] w fun e w' => e = .returned (.bool true) ∧ w' = w := by
  go_enter Try.func11, Try.ntmps11
  go_wp2_with (first | (go_at_call 21; refine (monthLen_any _ _ (by omega) (by omega) _).mono ?_; rintro e w' ⟨rfl, rfl⟩) | (go_at_call 19; refine (zcivil_any _ _ _ (by omega) (by omega) (by omega) (by omega) (by omega) (by omega) _).mono ?_; rintro e w' ⟨rfl, rfl⟩))
  go_ret
  exact ⟨rfl, rfl⟩
set_option maxHeartbeats 400000 in
theorem out9 (y1 m1 d1 y2 m2 d2 : Int) (a1 : 0 ≤ y1) (a2 : y1 ≤ 9999) (a3 : 1 ≤ m1) (a4 : m1 ≤ 12) (b1 : 0 ≤ y2) (b2 : y2 ≤ 9999) (b3 : 1 ≤ m2) (b4 : m2 ≤ 12) (c1 : 1 ≤ d1) (h : Plain.dim y1 m1 < d1) (w : World) : Calls Try.prog 11 #[.int .i64 y1, .int .i64 m1, .int .i64 d1, .int .i64 y2, .int .i64 m2, .int .i64 d2] w fun e w' => e = .returned (.bool true) ∧ w' = w := by
  go_enter Try.func11, Try.ntmps11
  go_wp2_with (first | (go_at_call 21; refine (monthLen_any _ _ (by omega) (by omega) _).mono ?_; rintro e w' ⟨rfl, rfl⟩) | (go_at_call 19; refine (zcivil_any _ _ _ (by omega) (by omega) (by omega) (by omega) (by omega) (by omega) _).mono ?_; rintro e w' ⟨rfl, rfl⟩))
  go_ret
  exact ⟨rfl, rfl⟩
set_option maxHeartbeats 400000 in
theorem out10 (y1 m1 d1 y2 m2 d2 : Int) (a1 : 0 ≤ y1) (a2 : y1 ≤ 9999) (a3 : 1 ≤ m1) (a4 : m1 ≤ 12) (b1 : 0 ≤ y2) (b2 : y2 ≤ 9999) (b3 : 1 ≤ m2) (b4 : m2 ≤ 12) (c1 : 1 ≤ d1) (c2 : d1 ≤ Plain.dim y1 m1) (h : d2 < 1) (w : World) : Calls Try.prog 11 #[.int .i64 y1, .int .i64 m1, .int .i64 d1, .int .i64 y2, .int .i64 m2, .int .i64 d2] w fun e w' => e = .returned (.bool true) ∧ w' = w := by
  go_enter Try.func11, Try.ntmps11
  go_wp2_with (first | (go_at_call 21; refine (monthLen_any _ _ (by omega) (by omega) _).mono ?_; rintro e w' ⟨rfl, rfl⟩) | (go_at_call 19; refine (zcivil_any _ _ _ (by omega) (by omega) (by omega) (by omega) (by omega) (by omega) _).mono ?_; rintro e w' ⟨rfl, rfl⟩))
  go_ret
  exact ⟨rfl, rfl⟩
set_option maxHeartbeats 400000 in
theorem out11 (y1 m1 d1 y2 m2 d2 : Int) (a1 : 0 ≤ y1) (a2 : y1 ≤ 9999) (a3 : 1 ≤ m1) (a4 : m1 ≤ 12) (b1 : 0 ≤ y2) (b2 : y2 ≤ 9999) (b3 : 1 ≤ m2) (b4 : m2 ≤ 12) (c1 : 1 ≤ d1) (c2 : d1 ≤ Plain.dim y1 m1) (c3 : 1 ≤ d2) (h : Plain.dim y2 m2 < d2) (w : World) : Calls Try.prog 11 #[.int .i64 y1, .int .i64 m1, .int .i64 d1, .int .i64 y2, .int .i64 m2, .int .i64 d2] w fun e w' => e = .returned (.bool true) ∧ w' = w := by
  go_enter Try.func11, Try.ntmps11
  go_wp2_with (first | (go_at_call 21; refine (monthLen_any _ _ (by omega) (by omega) _).mono ?_; rintro e w' ⟨rfl, rfl⟩) | (go_at_call 19; refine (zcivil_any _ _ _ (by omega) (by omega) (by omega) (by omega) (by omega) (by omega) _).mono ?_; rintro e w' ⟨rfl, rfl⟩))
  go_ret
  exact ⟨rfl, rfl⟩

/-! ### Two valid dates -/
set_option maxHeartbeats 1000000 in
theorem y_lt (y1 m1 d1 y2 m2 d2 : Int) (a1 : 0 ≤ y1) (a2 : y1 ≤ 9999) (a3 : 1 ≤ m1) (a4 : m1 ≤ 12) (b1 : 0 ≤ y2) (b2 : y2 ≤ 9999) (b3 : 1 ≤ m2) (b4 : m2 ≤ 12) (c1 : 1 ≤ d1) (c2 : d1 ≤ Plain.dim y1 m1) (c3 : 1 ≤ d2) (c4 : d2 ≤ Plain.dim y2 m2) (h : y1 < y2) (w : World) : Calls Try.prog 11 #[.int .i64 y1, .int .i64 m1, .int .i64 d1, .int .i64 y2, .int .i64 m2, .int .i64 d2] w fun e w' => e = .returned (.bool true) ∧ w' = w := by
  have bd1 := Plain.dim_bd y1 m1
  have bd2 := Plain.dim_bd y2 m2
  have e1 : (y1 == y2) = false := nes (by omega)
  have l : Plain.civ y1 m1 d1 < Plain.civ y2 m2 d2 := Plain.civ_lt_year y1 m1 d1 y2 m2 d2 h a3 a4 c1 c2 b3 b4 c3 c4
  have e : (Plain.civ y1 m1 d1 == Plain.civ y2 m2 d2) = false := nes (by omega)
  go_enter Try.func11, Try.ntmps11
  go_wp2_with (first | (go_at_call 21; refine (monthLen_any _ _ (by omega) (by omega) _).mono ?_; rintro e w' ⟨rfl, rfl⟩) | (go_at_call 19; refine (zcivil_any _ _ _ (by omega) (by omega) (by omega) (by omega) (by omega) (by omega) _).mono ?_; rintro e w' ⟨rfl, rfl⟩))
  go_ret
  exact ⟨rfl, rfl⟩
set_option maxHeartbeats 1000000 in
theorem y_gt (y1 m1 d1 y2 m2 d2 : Int) (a1 : 0 ≤ y1) (a2 : y1 ≤ 9999) (a3 : 1 ≤ m1) (a4 : m1 ≤ 12) (b1 : 0 ≤ y2) (b2 : y2 ≤ 9999) (b3 : 1 ≤ m2) (b4 : m2 ≤ 12) (c1 : 1 ≤ d1) (c2 : d1 ≤ Plain.dim y1 m1) (c3 : 1 ≤ d2) (c4 : d2 ≤ Plain.dim y2 m2) (h : y2 < y1) (w : World) : Calls Try.prog 11 #[.int .i64 y1, .int .i64 m1, .int .i64 d1, .int .i64 y2, .int .i64 m2, .int .i64 d2] w fun e w' => e = .returned (.bool true) ∧ w' = w := by
  have bd1 := Plain.dim_bd y1 m1
  have bd2 := Plain.dim_bd y2 m2
  have e1 : (y1 == y2) = false := nes (by omega)
  have l : Plain.civ y2 m2 d2 < Plain.civ y1 m1 d1 := Plain.civ_lt_year y2 m2 d2 y1 m1 d1 h b3 b4 c3 c4 a3 a4 c1 c2
  have e : (Plain.civ y1 m1 d1 == Plain.civ y2 m2 d2) = false := nes (by omega)
  go_enter Try.func11, Try.ntmps11
  go_wp2_with (first | (go_at_call 21; refine (monthLen_any _ _ (by omega) (by omega) _).mono ?_; rintro e w' ⟨rfl, rfl⟩) | (go_at_call 19; refine (zcivil_any _ _ _ (by omega) (by omega) (by omega) (by omega) (by omega) (by omega) _).mono ?_; rintro e w' ⟨rfl, rfl⟩))
  go_ret
  exact ⟨rfl, rfl⟩
set_option maxHeartbeats 1000000 in
theorem m_lt (y1 m1 d1 m2 d2 : Int) (a1 : 0 ≤ y1) (a2 : y1 ≤ 9999) (a3 : 1 ≤ m1) (a4 : m1 ≤ 12) (b3 : 1 ≤ m2) (b4 : m2 ≤ 12) (c1 : 1 ≤ d1) (c2 : d1 ≤ Plain.dim y1 m1) (c3 : 1 ≤ d2) (c4 : d2 ≤ Plain.dim y1 m2) (h : m1 < m2) (w : World) : Calls Try.prog 11 #[.int .i64 y1, .int .i64 m1, .int .i64 d1, .int .i64 y1, .int .i64 m2, .int .i64 d2] w fun e w' => e = .returned (.bool true) ∧ w' = w := by
  have bd1 := Plain.dim_bd y1 m1
  have bd2 := Plain.dim_bd y1 m2
  have e1 : (m1 == m2) = false := nes (by omega)
  have l : Plain.civ y1 m1 d1 < Plain.civ y1 m2 d2 := Plain.civ_lt_month y1 m1 d1 m2 d2 h a3 c2 b4 c3
  have e : (Plain.civ y1 m1 d1 == Plain.civ y1 m2 d2) = false := nes (by omega)
  go_enter Try.func11, Try.ntmps11
  go_wp2_with (first | (go_at_call 21; refine (monthLen_any _ _ (by omega) (by omega) _).mono ?_; rintro e w' ⟨rfl, rfl⟩) | (go_at_call 19; refine (zcivil_any _ _ _ (by omega) (by omega) (by omega) (by omega) (by omega) (by omega) _).mono ?_; rintro e w' ⟨rfl, rfl⟩))
  go_ret
  exact ⟨rfl, rfl⟩
set_option maxHeartbeats 1000000 in
theorem m_gt (y1 m1 d1 m2 d2 : Int) (a1 : 0 ≤ y1) (a2 : y1 ≤ 9999) (a3 : 1 ≤ m1) (a4 : m1 ≤ 12) (b3 : 1 ≤ m2) (b4 : m2 ≤ 12) (c1 : 1 ≤ d1) (c2 : d1 ≤ Plain.dim y1 m1) (c3 : 1 ≤ d2) (c4 : d2 ≤ Plain.dim y1 m2) (h : m2 < m1) (w : World) : Calls Try.prog 11 #[.int .i64 y1, .int .i64 m1, .int .i64 d1, .int .i64 y1, .int .i64 m2, .int .i64 d2] w fun e w' => e = .returned (.bool true) ∧ w' = w := by
  have bd1 := Plain.dim_bd y1 m1
  have bd2 := Plain.dim_bd y1 m2
  have e1 : (m1 == m2) = false := nes (by omega)
  have l : Plain.civ y1 m2 d2 < Plain.civ y1 m1 d1 := Plain.civ_lt_month y1 m2 d2 m1 d1 h b3 c4 a4 c1
  have e : (Plain.civ y1 m1 d1 == Plain.civ y1 m2 d2) = false := nes (by omega)
  go_enter Try.func11, Try.ntmps11
  go_wp2_with (first | (go_at_call 21; refine (monthLen_any _ _ (by omega) (by omega) _).mono ?_; rintro e w' ⟨rfl, rfl⟩) | (go_at_call 19; refine (zcivil_any _ _ _ (by omega) (by omega) (by omega) (by omega) (by omega) (by omega) _).mono ?_; rintro e w' ⟨rfl, rfl⟩))
  go_ret
  exact ⟨rfl, rfl⟩
set_option maxHeartbeats 1000000 in
theorem d_lt (y1 m1 d1 d2 : Int) (a1 : 0 ≤ y1) (a2 : y1 ≤ 9999) (a3 : 1 ≤ m1) (a4 : m1 ≤ 12) (c1 : 1 ≤ d1) (c2 : d1 ≤ Plain.dim y1 m1) (c3 : 1 ≤ d2) (c4 : d2 ≤ Plain.dim y1 m1) (h : d1 < d2) (w : World) : Calls Try.prog 11 #[.int .i64 y1, .int .i64 m1, .int .i64 d1, .int .i64 y1, .int .i64 m1, .int .i64 d2] w fun e w' => e = .returned (.bool true) ∧ w' = w := by
  have bd := Plain.dim_bd y1 m1
  have e1 : (d1 == d2) = false := nes (by omega)
  have l : Plain.civ y1 m1 d1 < Plain.civ y1 m1 d2 := Plain.civ_lt_day y1 m1 d1 d2 h
  have e : (Plain.civ y1 m1 d1 == Plain.civ y1 m1 d2) = false := nes (by omega)
  go_enter Try.func11, Try.ntmps11
  go_wp2_with (first | (go_at_call 21; refine (monthLen_any _ _ (by omega) (by omega) _).mono ?_; rintro e w' ⟨rfl, rfl⟩) | (go_at_call 19; refine (zcivil_any _ _ _ (by omega) (by omega) (by omega) (by omega) (by omega) (by omega) _).mono ?_; rintro e w' ⟨rfl, rfl⟩))
  go_ret
  exact ⟨rfl, rfl⟩
set_option maxHeartbeats 1000000 in
theorem d_gt (y1 m1 d1 d2 : Int) (a1 : 0 ≤ y1) (a2 : y1 ≤ 9999) (a3 : 1 ≤ m1) (a4 : m1 ≤ 12) (c1 : 1 ≤ d1) (c2 : d1 ≤ Plain.dim y1 m1) (c3 : 1 ≤ d2) (c4 : d2 ≤ Plain.dim y1 m1) (h : d2 < d1) (w : World) : Calls Try.prog 11 #[.int .i64 y1, .int .i64 m1, .int .i64 d1, .int .i64 y1, .int .i64 m1, .int .i64 d2] w fun e w' => e = .returned (.bool true) ∧ w' = w := by
  have bd := Plain.dim_bd y1 m1
  have e1 : (d1 == d2) = false := nes (by omega)
  have l : Plain.civ y1 m1 d2 < Plain.civ y1 m1 d1 := Plain.civ_lt_day y1 m1 d2 d1 h
  have e : (Plain.civ y1 m1 d1 == Plain.civ y1 m1 d2) = false := nes (by omega)
  go_enter Try.func11, Try.ntmps11
  go_wp2_with (first | (go_at_call 21; refine (monthLen_any _ _ (by omega) (by omega) _).mono ?_; rintro e w' ⟨rfl, rfl⟩) | (go_at_call 19; refine (zcivil_any _ _ _ (by omega) (by omega) (by omega) (by omega) (by omega) (by omega) _).mono ?_; rintro e w' ⟨rfl, rfl⟩))
  go_ret
  exact ⟨rfl, rfl⟩
set_option maxHeartbeats 1000000 in
theorem same_date (y1 m1 d1 : Int) (a1 : 0 ≤ y1) (a2 : y1 ≤ 9999) (a3 : 1 ≤ m1) (a4 : m1 ≤ 12) (c1 : 1 ≤ d1) (c2 : d1 ≤ Plain.dim y1 m1) (w : World) : Calls Try.prog 11 #[.int .i64 y1, .int .i64 m1, .int .i64 d1, .int .i64 y1, .int .i64 m1, .int .i64 d1] w fun e w' => e = .returned (.bool true) ∧ w' = w := by
  have bd := Plain.dim_bd y1 m1
  go_enter Try.func11, Try.ntmps11
  go_wp2_with (first | (go_at_call 21; refine (monthLen_any _ _ (by omega) (by omega) _).mono ?_; rintro e w' ⟨rfl, rfl⟩) | (go_at_call 19; refine (zcivil_any _ _ _ (by omega) (by omega) (by omega) (by omega) (by omega) (by omega) _).mono ?_; rintro e w' ⟨rfl, rfl⟩))
  go_ret
  exact ⟨rfl, rfl⟩
theorem all_dates (y1 m1 d1 y2 m2 d2 : Int) (w : World) : Calls Try.prog 11 #[.int .i64 y1, .int .i64 m1, .int .i64 d1, .int .i64 y2, .int .i64 m2, .int .i64 d2] w fun e w' => e = .returned (.bool true) ∧ w' = w := by
  by_cases n0 : y1 < 0
  · exact out0 y1 m1 d1 y2 m2 d2  n0 w
  by_cases n1 : 9999 < y1
  · exact out1 y1 m1 d1 y2 m2 d2 (by omega) n1 w
  by_cases n2 : m1 < 1
  · exact out2 y1 m1 d1 y2 m2 d2 (by omega) (by omega) n2 w
  by_cases n3 : 12 < m1
  · exact out3 y1 m1 d1 y2 m2 d2 (by omega) (by omega) (by omega) n3 w
  by_cases n4 : y2 < 0
  · exact out4 y1 m1 d1 y2 m2 d2 (by omega) (by omega) (by omega) (by omega) n4 w
  by_cases n5 : 9999 < y2
  · exact out5 y1 m1 d1 y2 m2 d2 (by omega) (by omega) (by omega) (by omega) (by omega) n5 w
  by_cases n6 : m2 < 1
  · exact out6 y1 m1 d1 y2 m2 d2 (by omega) (by omega) (by omega) (by omega) (by omega) (by omega) n6 w
  by_cases n7 : 12 < m2
  · exact out7 y1 m1 d1 y2 m2 d2 (by omega) (by omega) (by omega) (by omega) (by omega) (by omega) (by omega) n7 w
  by_cases n8 : d1 < 1
  · exact out8 y1 m1 d1 y2 m2 d2 (by omega) (by omega) (by omega) (by omega) (by omega) (by omega) (by omega) (by omega) n8 w
  by_cases n9 : Plain.dim y1 m1 < d1
  · exact out9 y1 m1 d1 y2 m2 d2 (by omega) (by omega) (by omega) (by omega) (by omega) (by omega) (by omega) (by omega) (by omega) n9 w
  by_cases n10 : d2 < 1
  · exact out10 y1 m1 d1 y2 m2 d2 (by omega) (by omega) (by omega) (by omega) (by omega) (by omega) (by omega) (by omega) (by omega) (by omega) n10 w
  by_cases n11 : Plain.dim y2 m2 < d2
  · exact out11 y1 m1 d1 y2 m2 d2 (by omega) (by omega) (by omega) (by omega) (by omega) (by omega) (by omega) (by omega) (by omega) (by omega) (by omega) n11 w
  by_cases k1 : y1 < y2
  · exact y_lt y1 m1 d1 y2 m2 d2 (by omega) (by omega) (by omega) (by omega) (by omega) (by omega) (by omega) (by omega) (by omega) (by omega) (by omega) (by omega) k1 w
  by_cases k2 : y2 < y1
  · exact y_gt y1 m1 d1 y2 m2 d2 (by omega) (by omega) (by omega) (by omega) (by omega) (by omega) (by omega) (by omega) (by omega) (by omega) (by omega) (by omega) k2 w
  have ey : y2 = y1 := by omega
  subst ey
  by_cases k3 : m1 < m2
  · exact m_lt y2 m1 d1 m2 d2 (by omega) (by omega) (by omega) (by omega) (by omega) (by omega) (by omega) (by omega) (by omega) (by omega) k3 w
  by_cases k4 : m2 < m1
  · exact m_gt y2 m1 d1 m2 d2 (by omega) (by omega) (by omega) (by omega) (by omega) (by omega) (by omega) (by omega) (by omega) (by omega) k4 w
  have em : m2 = m1 := by omega
  subst em
  by_cases k5 : d1 < d2
  · exact d_lt y2 m2 d1 d2 (by omega) (by omega) (by omega) (by omega) (by omega) (by omega) (by omega) (by omega) k5 w
  by_cases k6 : d2 < d1
  · exact d_gt y2 m2 d1 d2 (by omega) (by omega) (by omega) (by omega) (by omega) (by omega) (by omega) (by omega) k6 w
  have ed : d2 = d1 := by omega
  subst ed
  exact same_date y2 m2 d2 (by omega) (by omega) (by omega) (by omega) (by omega) (by omega) w

theorem walk (a0 : Int) (a1 : Int) (a2 : Int) (a3 : Int) (a4 : Int) (a5 : Int) (w0 : (Lit.int .i64 a0).wf = true) (w1 : (Lit.int .i64 a1).wf = true) (w2 : (Lit.int .i64 a2).wf = true) (w3 : (Lit.int .i64 a3).wf = true) (w4 : (Lit.int .i64 a4).wf = true) (w5 : (Lit.int .i64 a5).wf = true) (w : World) :
    Calls Try.prog 11 #[.int .i64 a0, .int .i64 a1, .int .i64 a2, .int .i64 a3, .int .i64 a4, .int .i64 a5] w fun e w' => e = .returned (.bool true) ∧ Grown w w' :=
  (all_dates a0 a1 a2 a3 a4 a5 w).mono fun e w' ⟨h1, h2⟩ => ⟨h1, h2 ▸ Grown.refl _⟩

/-! ### THE ROW's STEP: WRITTEN OUT: LEAVE IT -/
set_option maxRecDepth 100000 in
theorem lifted (os : Os) (started : os.Started) (H : Type) (enc : TypeId × Value → H) :
    ReturnsInHanded {} Try.checked os 11 .any (Rows.fnCivilDaysKeepsDateOrderSpec.pre6 enc Try.prog Try.f11 Rows.fnCivilDaysKeepsDateOrderRow.domain false) (Rows.fnCivilDaysKeepsDateOrderSpec.post enc Try.prog Try.f11 false true false false) := by
  refine returnsInHanded_of_change (C := Try.checked) own started (by kernel_rfl) Try.func11
    (ChangeSpec.witness6 (enc := enc) (C := Try.checked) false ⟨#[], #[.int .i64 0, .int .i64 0, .int .i64 0, .int .i64 0, .int .i64 0, .int .i64 0], []⟩ 8 (by kernel_rfl) (by kernel_rfl) (by kernel_rfl) (by kernel_rfl)) ?_
  intro W base args ds gs before hval0 hW hcnd _
  have hval : ∀ (j : Nat) t v, Try.f11.params[j]? = some t → args[j]? = some v → Value.okWide Try.prog W .any base t v := hval0
  have hW' := hW
  obtain ⟨p, q, hA0, hV, rfl, hfz, hnd⟩ := hW
  have hA : DataW.TrodAll enc Try.prog W 0 (fun _ => true) true Try.f11.params.toList args.toList ds p := hA0
  rw [Try.params11] at hA hval
  obtain ⟨v0, vs0, d0, ds0, p0, q0, hargs, rfl, rfl, h0, r0⟩ := trodAll_cons hA
  obtain ⟨v1, vs1, d1, ds1, p1, q1, rfl, rfl, rfl, h1, r1⟩ := trodAll_cons r0
  obtain ⟨v2, vs2, d2, ds2, p2, q2, rfl, rfl, rfl, h2, r2⟩ := trodAll_cons r1
  obtain ⟨v3, vs3, d3, ds3, p3, q3, rfl, rfl, rfl, h3, r3⟩ := trodAll_cons r2
  obtain ⟨v4, vs4, d4, ds4, p4, q4, rfl, rfl, rfl, h4, r4⟩ := trodAll_cons r3
  obtain ⟨v5, vs5, d5, ds5, p5, q5, rfl, rfl, rfl, h5, r5⟩ := trodAll_cons r4
  obtain ⟨rfl, rfl, rfl⟩ := trodAll_nil r5
  obtain rfl : args = #[v0, v1, v2, v3, v4, v5] := by cases args; simp_all
  obtain ⟨rfl, rfl⟩ := trodVars_none hV
  obtain ⟨a0, rfl, rfl, rfl, w0⟩ := open_int Try.underlying2 (hval 0 2 v0 rfl rfl) h0
  obtain ⟨a1, rfl, rfl, rfl, w1⟩ := open_int Try.underlying2 (hval 1 2 v1 rfl rfl) h1
  obtain ⟨a2, rfl, rfl, rfl, w2⟩ := open_int Try.underlying2 (hval 2 2 v2 rfl rfl) h2
  obtain ⟨a3, rfl, rfl, rfl, w3⟩ := open_int Try.underlying2 (hval 3 2 v3 rfl rfl) h3
  obtain ⟨a4, rfl, rfl, rfl, w4⟩ := open_int Try.underlying2 (hval 4 2 v4 rfl rfl) h4
  obtain ⟨a5, rfl, rfl, rfl, w5⟩ := open_int Try.underlying2 (hval 5 2 v5 rfl rfl) h5
  clear hA0 hval0
  simp only [List.append_nil] at hW'
  refine (walk a0 a1 a2 a3 a4 a5 w0 w1 w2 w3 w4 w5 W).mono fun e W' ⟨he, hg⟩ => ?_
  subst he
  exact ⟨_, rfl, post_of_same (pa := []) (pv := []) hW' (fun _ _ _ => (trodAll_cons_mk (shut_bool Try.underlying4 _) trodAll_mk0)) (fun sp _ => (trodAll_cons_mk (shut_int Try.underlying2 w0) (trodAll_cons_mk (shut_int Try.underlying2 w1) (trodAll_cons_mk (shut_int Try.underlying2 w2) (trodAll_cons_mk (shut_int Try.underlying2 w3) (trodAll_cons_mk (shut_int Try.underlying2 w4) (trodAll_cons_mk (shut_int Try.underlying2 w5) trodAll_mk0))))))) (fun _ _ => rfl) rfl
    (hg.frame _) hg.2.1 (ok_one (by kernel_rfl) rfl (okWide_bool_mk Try.underlying4 _))⟩

theorem over : Rows.fnCivilDaysKeepsDateOrderRow.holds Try.pinned (OpenSpec.ofChange Rows.fnCivilDaysKeepsDateOrderSpec) :=
  OpenClaim.holds_of_wide 11 Try.f11 rfl rfl rfl rfl rfl rfl rfl ⟨rfl, rfl, rfl, rfl, rfl⟩ rfl rfl rfl rfl rfl (by kernel_rfl) Try.func11 (by kernel_rfl)
    (of_decide_eq_true (by kernel_rfl)) (by unfold Func.isWrapper; first | (rw [if_pos (by decide +kernel)]; kernel_rfl) | (rw [if_neg (by decide +kernel)]; exact ⟨rfl, rfl⟩))
    (fun os started H enc _ => lifted os started H enc)

/-- ████ THE STATEMENT ████ -/
theorem proved : Rows.FnCivilDaysKeepsDateOrderSaid :=
  over
end Go.Proofs.Qxb6602703a.fnCivilDaysKeepsDateOrder
