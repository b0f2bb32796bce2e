/-
  THE PROOF OF 'Rows.FnDaysInMatchesCalendarTableSaid', in the frame that the guide's program wrote. Filled in: the walk.
-/
import Derived.Test.Qxb6602703aRows
import Derived.WalkKit
import Derived.ProofKit
import Derived.OpenShut
import Derived.ShutString
import Derived.Test.Qxb6602703aCal
namespace Go.Proofs.Qxb6602703a.fnDaysInMatchesCalendarTable
open Go.ChangeShapes Go.WideShapes Go.ChangeAt Go.RowKit
open Go.ChangeMaps (open_string shut_string)
set_option linter.unusedVariables false      -- a walk need not use every 'w<i>' (that an integer argument fits its kind)

theorem own : ownKnob Try.prog.godebug = none := by kernel_rfl

theorem eqs {a b : Int} (h : a = b) : (a == b) = true := by rw [beq_iff_eq]; exact h
theorem nes {a b : Int} (h : ¬ a = b) : (a == b) = false := by rw [beq_eq_false_iff_ne]; exact h

set_option maxHeartbeats 400000 in
theorem month1 (y : Int) (w : World) :
    Calls Try.prog 6 #[.int .i64 y, .int .i64 1] w fun e w' => e = .returned (.bool true) ∧ w' = w := by
  have e1 : (Plain.dim y 1 == 31) = true := eqs (by simp [Plain.dim])
  go_enter Try.func6, Try.ntmps6
  go_wp2_with (go_at_call 18; refine (zdaysIn_any _ _ _).mono ?_; rintro e w' ⟨rfl, rfl⟩)
  go_ret
  exact ⟨rfl, rfl⟩
set_option maxHeartbeats 400000 in
theorem month3 (y : Int) (w : World) :
    Calls Try.prog 6 #[.int .i64 y, .int .i64 3] w fun e w' => e = .returned (.bool true) ∧ w' = w := by
  have e1 : (Plain.dim y 3 == 31) = true := eqs (by simp [Plain.dim])
  go_enter Try.func6, Try.ntmps6
  go_wp2_with (go_at_call 18; refine (zdaysIn_any _ _ _).mono ?_; rintro e w' ⟨rfl, rfl⟩)
  go_ret
  exact ⟨rfl, rfl⟩
set_option maxHeartbeats 400000 in
theorem month4 (y : Int) (w : World) :
    Calls Try.prog 6 #[.int .i64 y, .int .i64 4] w fun e w' => e = .returned (.bool true) ∧ w' = w := by
  have e1 : (Plain.dim y 4 == 30) = true := eqs (by simp [Plain.dim])
  go_enter Try.func6, Try.ntmps6
  go_wp2_with (go_at_call 18; refine (zdaysIn_any _ _ _).mono ?_; rintro e w' ⟨rfl, rfl⟩)
  go_ret
  exact ⟨rfl, rfl⟩
set_option maxHeartbeats 400000 in
theorem month5 (y : Int) (w : World) :
    Calls Try.prog 6 #[.int .i64 y, .int .i64 5] w fun e w' => e = .returned (.bool true) ∧ w' = w := by
  have e1 : (Plain.dim y 5 == 31) = true := eqs (by simp [Plain.dim])
  go_enter Try.func6, Try.ntmps6
  go_wp2_with (go_at_call 18; refine (zdaysIn_any _ _ _).mono ?_; rintro e w' ⟨rfl, rfl⟩)
  go_ret
  exact ⟨rfl, rfl⟩
set_option maxHeartbeats 400000 in
theorem month6 (y : Int) (w : World) :
    Calls Try.prog 6 #[.int .i64 y, .int .i64 6] w fun e w' => e = .returned (.bool true) ∧ w' = w := by
  have e1 : (Plain.dim y 6 == 30) = true := eqs (by simp [Plain.dim])
  go_enter Try.func6, Try.ntmps6
  go_wp2_with (go_at_call 18; refine (zdaysIn_any _ _ _).mono ?_; rintro e w' ⟨rfl, rfl⟩)
  go_ret
  exact ⟨rfl, rfl⟩
set_option maxHeartbeats 400000 in
theorem month7 (y : Int) (w : World) :
    Calls Try.prog 6 #[.int .i64 y, .int .i64 7] w fun e w' => e = .returned (.bool true) ∧ w' = w := by
  have e1 : (Plain.dim y 7 == 31) = true := eqs (by simp [Plain.dim])
  go_enter Try.func6, Try.ntmps6
  go_wp2_with (go_at_call 18; refine (zdaysIn_any _ _ _).mono ?_; rintro e w' ⟨rfl, rfl⟩)
  go_ret
  exact ⟨rfl, rfl⟩
set_option maxHeartbeats 400000 in
theorem month8 (y : Int) (w : World) :
    Calls Try.prog 6 #[.int .i64 y, .int .i64 8] w fun e w' => e = .returned (.bool true) ∧ w' = w := by
  have e1 : (Plain.dim y 8 == 31) = true := eqs (by simp [Plain.dim])
  go_enter Try.func6, Try.ntmps6
  go_wp2_with (go_at_call 18; refine (zdaysIn_any _ _ _).mono ?_; rintro e w' ⟨rfl, rfl⟩)
  go_ret
  exact ⟨rfl, rfl⟩
set_option maxHeartbeats 400000 in
theorem month9 (y : Int) (w : World) :
    Calls Try.prog 6 #[.int .i64 y, .int .i64 9] w fun e w' => e = .returned (.bool true) ∧ w' = w := by
  have e1 : (Plain.dim y 9 == 30) = true := eqs (by simp [Plain.dim])
  go_enter Try.func6, Try.ntmps6
  go_wp2_with (go_at_call 18; refine (zdaysIn_any _ _ _).mono ?_; rintro e w' ⟨rfl, rfl⟩)
  go_ret
  exact ⟨rfl, rfl⟩
set_option maxHeartbeats 400000 in
theorem month10 (y : Int) (w : World) :
    Calls Try.prog 6 #[.int .i64 y, .int .i64 10] w fun e w' => e = .returned (.bool true) ∧ w' = w := by
  have e1 : (Plain.dim y 10 == 31) = true := eqs (by simp [Plain.dim])
  go_enter Try.func6, Try.ntmps6
  go_wp2_with (go_at_call 18; refine (zdaysIn_any _ _ _).mono ?_; rintro e w' ⟨rfl, rfl⟩)
  go_ret
  exact ⟨rfl, rfl⟩
set_option maxHeartbeats 400000 in
theorem month11 (y : Int) (w : World) :
    Calls Try.prog 6 #[.int .i64 y, .int .i64 11] w fun e w' => e = .returned (.bool true) ∧ w' = w := by
  have e1 : (Plain.dim y 11 == 30) = true := eqs (by simp [Plain.dim])
  go_enter Try.func6, Try.ntmps6
  go_wp2_with (go_at_call 18; refine (zdaysIn_any _ _ _).mono ?_; rintro e w' ⟨rfl, rfl⟩)
  go_ret
  exact ⟨rfl, rfl⟩
set_option maxHeartbeats 400000 in
theorem month12 (y : Int) (w : World) :
    Calls Try.prog 6 #[.int .i64 y, .int .i64 12] w fun e w' => e = .returned (.bool true) ∧ w' = w := by
  have e1 : (Plain.dim y 12 == 31) = true := eqs (by simp [Plain.dim])
  go_enter Try.func6, Try.ntmps6
  go_wp2_with (go_at_call 18; refine (zdaysIn_any _ _ _).mono ?_; rintro e w' ⟨rfl, rfl⟩)
  go_ret
  exact ⟨rfl, rfl⟩
set_option maxHeartbeats 400000 in
theorem month2_leap (y : Int) (h : lpB y = true) (w : World) :
    Calls Try.prog 6 #[.int .i64 y, .int .i64 2] w fun e w' => e = .returned (.bool true) ∧ w' = w := by
  have e1 : (Plain.dim y 2 == 29) = true := eqs (by simp [Plain.dim, lp_of_true h])
  go_enter Try.func6, Try.ntmps6
  go_wp2_with (first | (go_at_call 17; refine (leapCyc_any _ _).mono ?_; rintro e w' ⟨rfl, rfl⟩) | (go_at_call 18; refine (zdaysIn_any _ _ _).mono ?_; rintro e w' ⟨rfl, rfl⟩))
  go_ret
  exact ⟨rfl, rfl⟩
set_option maxHeartbeats 400000 in
theorem month2_plain (y : Int) (h : lpB y = false) (w : World) :
    Calls Try.prog 6 #[.int .i64 y, .int .i64 2] w fun e w' => e = .returned (.bool true) ∧ w' = w := by
  have e1 : (Plain.dim y 2 == 28) = true := eqs (by simp [Plain.dim, lp_of_false h])
  go_enter Try.func6, Try.ntmps6
  go_wp2_with (first | (go_at_call 17; refine (leapCyc_any _ _).mono ?_; rintro e w' ⟨rfl, rfl⟩) | (go_at_call 18; refine (zdaysIn_any _ _ _).mono ?_; rintro e w' ⟨rfl, rfl⟩))
  go_ret
  exact ⟨rfl, rfl⟩
set_option maxHeartbeats 400000 in
theorem no_month (y m : Int) (h : m < 1 ∨ 12 < m) (w : World) :
    Calls Try.prog 6 #[.int .i64 y, .int .i64 m] w fun e w' => e = .returned (.bool true) ∧ w' = w := by
  have ed : (Plain.dim y m == 31) = true := eqs (by unfold Plain.dim; rw [if_neg (by omega), if_neg (by omega)])
  have e1 : (m == 1) = false := nes (by omega)
  have e2 : (m == 2) = false := nes (by omega)
  have e3 : (m == 3) = false := nes (by omega)
  have e4 : (m == 4) = false := nes (by omega)
  have e5 : (m == 5) = false := nes (by omega)
  have e6 : (m == 6) = false := nes (by omega)
  have e7 : (m == 7) = false := nes (by omega)
  have e8 : (m == 8) = false := nes (by omega)
  have e9 : (m == 9) = false := nes (by omega)
  have e10 : (m == 10) = false := nes (by omega)
  have e11 : (m == 11) = false := nes (by omega)
  have e12 : (m == 12) = false := nes (by omega)
  clear h
  go_enter Try.func6, Try.ntmps6
  go_wp2_with (go_at_call 18; refine (zdaysIn_any _ _ _).mono ?_; rintro e w' ⟨rfl, rfl⟩)
  go_ret
  exact ⟨rfl, rfl⟩
theorem all_months (y m : Int) (w : World) :
    Calls Try.prog 6 #[.int .i64 y, .int .i64 m] w fun e w' => e = .returned (.bool true) ∧ w' = w := by
  by_cases h : m < 1 ∨ 12 < m
  · exact no_month y m h w
  · rcases Plain.month_cases (show 1 ≤ m by omega) (show m ≤ 12 by omega) with rfl | rfl | rfl | rfl | rfl | rfl | rfl | rfl | rfl | rfl | rfl | rfl
    · exact month1 y w
    · by_cases hl : lpB y = true
      · exact month2_leap y hl w
      · exact month2_plain y (by simpa using hl) w
    · exact month3 y w
    · exact month4 y w
    · exact month5 y w
    · exact month6 y w
    · exact month7 y w
    · exact month8 y w
    · exact month9 y w
    · exact month10 y w
    · exact month11 y w
    · exact month12 y w

theorem walk (a0 : Int) (a1 : Int) (w0 : (Lit.int .i64 a0).wf = true) (w1 : (Lit.int .i64 a1).wf = true) (w : World) :
    Calls Try.prog 6 #[.int .i64 a0, .int .i64 a1] w fun e w' => e = .returned (.bool true) ∧ Grown w w' :=
  (all_months a0 a1 w).mono fun e w' ⟨h1, h2⟩ => ⟨h1, h2 ▸ Grown.refl _⟩

/-! ### THE ROW's STEP: WRITTEN OUT: LEAVE IT -/
set_option maxRecDepth 100000 in
theorem lifted (os : Os) (started : os.Started) (H : Type) (enc : TypeId × Value → H) :
    ReturnsInHanded {} Try.checked os 6 .any (Rows.fnDaysInMatchesCalendarTableSpec.pre6 enc Try.prog Try.f6 Rows.fnDaysInMatchesCalendarTableRow.domain false) (Rows.fnDaysInMatchesCalendarTableSpec.post enc Try.prog Try.f6 false true false false) := by
  refine returnsInHanded_of_change (C := Try.checked) own started (by kernel_rfl) Try.func6
    (ChangeSpec.witness6 (enc := enc) (C := Try.checked) false ⟨#[], #[.int .i64 0, .int .i64 0], []⟩ 8 (by kernel_rfl) (by kernel_rfl) (by kernel_rfl) (by kernel_rfl)) ?_
  intro W base args ds gs before hval0 hW hcnd _
  have hval : ∀ (j : Nat) t v, Try.f6.params[j]? = some t → args[j]? = some v → Value.okWide Try.prog W .any base t v := hval0
  have hW' := hW
  obtain ⟨p, q, hA0, hV, rfl, hfz, hnd⟩ := hW
  have hA : DataW.TrodAll enc Try.prog W 0 (fun _ => true) true Try.f6.params.toList args.toList ds p := hA0
  rw [Try.params6] at hA hval
  obtain ⟨v0, vs0, d0, ds0, p0, q0, hargs, rfl, rfl, h0, r0⟩ := trodAll_cons hA
  obtain ⟨v1, vs1, d1, ds1, p1, q1, rfl, rfl, rfl, h1, r1⟩ := trodAll_cons r0
  obtain ⟨rfl, rfl, rfl⟩ := trodAll_nil r1
  obtain rfl : args = #[v0, v1] := by cases args; simp_all
  obtain ⟨rfl, rfl⟩ := trodVars_none hV
  obtain ⟨a0, rfl, rfl, rfl, w0⟩ := open_int Try.underlying2 (hval 0 2 v0 rfl rfl) h0
  obtain ⟨a1, rfl, rfl, rfl, w1⟩ := open_int Try.underlying2 (hval 1 2 v1 rfl rfl) h1
  clear hA0 hval0
  simp only [List.append_nil] at hW'
  refine (walk a0 a1 w0 w1 W).mono fun e W' ⟨he, hg⟩ => ?_
  subst he
  exact ⟨_, rfl, post_of_same (pa := []) (pv := []) hW' (fun _ _ _ => (trodAll_cons_mk (shut_bool Try.underlying4 _) trodAll_mk0)) (fun sp _ => (trodAll_cons_mk (shut_int Try.underlying2 w0) (trodAll_cons_mk (shut_int Try.underlying2 w1) trodAll_mk0))) (fun _ _ => rfl) rfl
    (hg.frame _) hg.2.1 (ok_one (by kernel_rfl) rfl (okWide_bool_mk Try.underlying4 _))⟩

theorem over : Rows.fnDaysInMatchesCalendarTableRow.holds Try.pinned (OpenSpec.ofChange Rows.fnDaysInMatchesCalendarTableSpec) :=
  OpenClaim.holds_of_wide 6 Try.f6 rfl rfl rfl rfl rfl rfl rfl ⟨rfl, rfl, rfl, rfl, rfl⟩ rfl rfl rfl rfl rfl (by kernel_rfl) Try.func6 (by kernel_rfl)
    (of_decide_eq_true (by kernel_rfl)) (by unfold Func.isWrapper; first | (rw [if_pos (by decide +kernel)]; kernel_rfl) | (rw [if_neg (by decide +kernel)]; exact ⟨rfl, rfl⟩))
    (fun os started H enc _ => lifted os started H enc)

/-- ████ THE STATEMENT ████ -/
theorem proved : Rows.FnDaysInMatchesCalendarTableSaid :=
  over
end Go.Proofs.Qxb6602703a.fnDaysInMatchesCalendarTable
