/-
  THE PROOF OF 'Rows.FnCivilDaysNextDayIsOneMoreSaid', in the frame that the guide's program wrote. Filled in: the walk.
-/
import Derived.Test.Qxb6602703aRows
import Derived.WalkKit
import Derived.ProofKit
import Derived.OpenShut
import Derived.ShutString
import Derived.Test.Qxb6602703aCal
namespace Go.Proofs.Qxb6602703a.fnCivilDaysNextDayIsOneMore
open Go.ChangeShapes Go.WideShapes Go.ChangeAt Go.RowKit
open Go.ChangeMaps (open_string shut_string)
set_option linter.unusedVariables false      -- a walk need not use every 'w<i>' (that an integer argument fits its kind)

theorem own : ownKnob Try.prog.godebug = none := by kernel_rfl

theorem eqs {a b : Int} (h : a = b) : (a == b) = true := by rw [beq_iff_eq]; exact h
theorem nes {a b : Int} (h : ¬ a = b) : (a == b) = false := by rw [beq_eq_false_iff_ne]; exact h

/-! ### Outside the years 0 to 9999, the twelve months, the month's days; and the last date: true at once -/
theorem out_a (y m d : Int) (h : y < 0) (w : World) : Calls Try.prog 10 #[.int .i64 y, .int .i64 m, .int .i64 d] w fun e w' => e = .returned (.bool true) ∧ w' = w := by
  go_enter Try.func10, Try.ntmps10
  go_wp2
  go_ret
  exact ⟨rfl, rfl⟩
theorem out_b (y m d : Int) (h0 : 0 ≤ y) (h : 9999 < y) (w : World) : Calls Try.prog 10 #[.int .i64 y, .int .i64 m, .int .i64 d] w fun e w' => e = .returned (.bool true) ∧ w' = w := by
  go_enter Try.func10, Try.ntmps10
  go_wp2
  go_ret
  exact ⟨rfl, rfl⟩
theorem out_c (y m d : Int) (h0 : 0 ≤ y) (h9 : y ≤ 9999) (h : m < 1) (w : World) : Calls Try.prog 10 #[.int .i64 y, .int .i64 m, .int .i64 d] w fun e w' => e = .returned (.bool true) ∧ w' = w := by
  go_enter Try.func10, Try.ntmps10
  go_wp2
  go_ret
  exact ⟨rfl, rfl⟩
theorem out_d (y m d : Int) (h0 : 0 ≤ y) (h9 : y ≤ 9999) (h1 : 1 ≤ m) (h : 12 < m) (w : World) : Calls Try.prog 10 #[.int .i64 y, .int .i64 m, .int .i64 d] w fun e w' => e = .returned (.bool true) ∧ w' = w := by
  go_enter Try.func10, Try.ntmps10
  go_wp2
  go_ret
  exact ⟨rfl, rfl⟩
theorem out_e (y m d : Int) (h0 : 0 ≤ y) (h9 : y ≤ 9999) (h1 : 1 ≤ m) (h2 : m ≤ 12) (h : d < 1) (w : World) : Calls Try.prog 10 #[.int .i64 y, .int .i64 m, .int .i64 d] w fun e w' => e = .returned (.bool true) ∧ w' = w := by
  go_enter Try.func10, Try.ntmps10
  go_wp2
  go_ret
  exact ⟨rfl, rfl⟩
theorem out_f (y m d : Int) (h0 : 0 ≤ y) (h9 : y ≤ 9999) (h1 : 1 ≤ m) (h2 : m ≤ 12) (h3 : 1 ≤ d) (h : Plain.dim y m < d) (w : World) : Calls Try.prog 10 #[.int .i64 y, .int .i64 m, .int .i64 d] w fun e w' => e = .returned (.bool true) ∧ w' = w := by
  go_enter Try.func10, Try.ntmps10
  go_wp2_with (first | (go_at_call 21; refine (monthLen_any _ _ (by omega) (by omega) _).mono ?_; rintro e w' ⟨rfl, rfl⟩) | (go_at_call 19; refine (zcivil_any _ _ _ (by omega) (by omega) (by omega) (by omega) (by omega) (by omega) _).mono ?_; rintro e w' ⟨rfl, rfl⟩))
  go_ret
  exact ⟨rfl, rfl⟩
theorem out_g (y m d : Int) (h0 : 0 ≤ y) (h9 : y ≤ 9999) (h1 : 1 ≤ m) (h2 : m ≤ 12) (h3 : 1 ≤ d) (h4 : d ≤ Plain.dim y m) (e9 : (y == 9999) = true) (e12 : (m == 12) = true) (e31 : (d == 31) = true) (w : World) : Calls Try.prog 10 #[.int .i64 y, .int .i64 m, .int .i64 d] w fun e w' => e = .returned (.bool true) ∧ w' = w := by
  go_enter Try.func10, Try.ntmps10
  go_wp2_with (first | (go_at_call 21; refine (monthLen_any _ _ (by omega) (by omega) _).mono ?_; rintro e w' ⟨rfl, rfl⟩) | (go_at_call 19; refine (zcivil_any _ _ _ (by omega) (by omega) (by omega) (by omega) (by omega) (by omega) _).mono ?_; rintro e w' ⟨rfl, rfl⟩))
  go_ret
  exact ⟨rfl, rfl⟩

/-! ### Inside them: the next day lies in the same month, in the next month, or in the next year -/
set_option maxHeartbeats 1000000 in
theorem same1 (y m d : Int) (h0 : 0 ≤ y) (h9 : y ≤ 9999) (h1 : 1 ≤ m) (h2 : m ≤ 12) (h3 : 1 ≤ d) (h4 : d + 1 ≤ Plain.dim y m) (e9 : (y == 9999) = false) (w : World) : Calls Try.prog 10 #[.int .i64 y, .int .i64 m, .int .i64 d] w fun e w' => e = .returned (.bool true) ∧ w' = w := by
  have e0 : (Plain.civ 1970 1 1 != 0) = false := by rw [Plain.civ_epoch]; rfl
  obtain ⟨d1, d2⟩ := Plain.dim_bd y m
  obtain ⟨b1, b2⟩ := Plain.civ_bd y m d h0 (by omega) 100 (by omega) (by omega)
  have e1 : (Plain.civ y m (d + 1) == Plain.civ y m d + 1) = true := eqs (by unfold Plain.civ; omega)
  go_enter Try.func10, Try.ntmps10
  go_wp2_with (first | (go_at_call 21; refine (monthLen_any _ _ (by omega) (by omega) _).mono ?_; rintro e w' ⟨rfl, rfl⟩) | (go_at_call 19; refine (zcivil_any _ _ _ (by omega) (by omega) (by omega) (by omega) (by omega) (by omega) _).mono ?_; rintro e w' ⟨rfl, rfl⟩))
  go_ret
  exact ⟨rfl, rfl⟩
set_option maxHeartbeats 1000000 in
theorem same2 (y m d : Int) (h0 : 0 ≤ y) (h9 : y ≤ 9999) (h1 : 1 ≤ m) (h2 : m ≤ 12) (h3 : 1 ≤ d) (h4 : d + 1 ≤ Plain.dim y m) (e9 : (y == 9999) = true) (e12 : (m == 12) = false) (w : World) : Calls Try.prog 10 #[.int .i64 y, .int .i64 m, .int .i64 d] w fun e w' => e = .returned (.bool true) ∧ w' = w := by
  have e0 : (Plain.civ 1970 1 1 != 0) = false := by rw [Plain.civ_epoch]; rfl
  obtain ⟨d1, d2⟩ := Plain.dim_bd y m
  obtain ⟨b1, b2⟩ := Plain.civ_bd y m d h0 (by omega) 100 (by omega) (by omega)
  have e1 : (Plain.civ y m (d + 1) == Plain.civ y m d + 1) = true := eqs (by unfold Plain.civ; omega)
  go_enter Try.func10, Try.ntmps10
  go_wp2_with (first | (go_at_call 21; refine (monthLen_any _ _ (by omega) (by omega) _).mono ?_; rintro e w' ⟨rfl, rfl⟩) | (go_at_call 19; refine (zcivil_any _ _ _ (by omega) (by omega) (by omega) (by omega) (by omega) (by omega) _).mono ?_; rintro e w' ⟨rfl, rfl⟩))
  go_ret
  exact ⟨rfl, rfl⟩
set_option maxHeartbeats 1000000 in
theorem same3 (y m d : Int) (h0 : 0 ≤ y) (h9 : y ≤ 9999) (h1 : 1 ≤ m) (h2 : m ≤ 12) (h3 : 1 ≤ d) (h4 : d + 1 ≤ Plain.dim y m) (e9 : (y == 9999) = true) (e12 : (m == 12) = true) (e31 : (d == 31) = false) (w : World) : Calls Try.prog 10 #[.int .i64 y, .int .i64 m, .int .i64 d] w fun e w' => e = .returned (.bool true) ∧ w' = w := by
  have e0 : (Plain.civ 1970 1 1 != 0) = false := by rw [Plain.civ_epoch]; rfl
  obtain ⟨d1, d2⟩ := Plain.dim_bd y m
  obtain ⟨b1, b2⟩ := Plain.civ_bd y m d h0 (by omega) 100 (by omega) (by omega)
  have e1 : (Plain.civ y m (d + 1) == Plain.civ y m d + 1) = true := eqs (by unfold Plain.civ; omega)
  go_enter Try.func10, Try.ntmps10
  go_wp2_with (first | (go_at_call 21; refine (monthLen_any _ _ (by omega) (by omega) _).mono ?_; rintro e w' ⟨rfl, rfl⟩) | (go_at_call 19; refine (zcivil_any _ _ _ (by omega) (by omega) (by omega) (by omega) (by omega) (by omega) _).mono ?_; rintro e w' ⟨rfl, rfl⟩))
  go_ret
  exact ⟨rfl, rfl⟩
set_option maxHeartbeats 1000000 in
theorem month1 (y m d : Int) (h0 : 0 ≤ y) (h9 : y ≤ 9999) (h1 : 1 ≤ m) (h2 : m ≤ 11) (h3 : 1 ≤ d) (h4 : d ≤ Plain.dim y m) (h5 : Plain.dim y m < d + 1) (e9 : (y == 9999) = false) (w : World) : Calls Try.prog 10 #[.int .i64 y, .int .i64 m, .int .i64 d] w fun e w' => e = .returned (.bool true) ∧ w' = w := by
  have e0 : (Plain.civ 1970 1 1 != 0) = false := by rw [Plain.civ_epoch]; rfl
  obtain ⟨d1, d2⟩ := Plain.dim_bd y m
  obtain ⟨b1, b2⟩ := Plain.civ_bd y m d h0 (by omega) 100 (by omega) (by omega)
  have e1 : (Plain.civ y (m + 1) 1 == Plain.civ y m d + 1) = true := eqs (by have := Plain.cum_succ y m h1 (by omega); unfold Plain.civ; omega)
  go_enter Try.func10, Try.ntmps10
  go_wp2_with (first | (go_at_call 21; refine (monthLen_any _ _ (by omega) (by omega) _).mono ?_; rintro e w' ⟨rfl, rfl⟩) | (go_at_call 19; refine (zcivil_any _ _ _ (by omega) (by omega) (by omega) (by omega) (by omega) (by omega) _).mono ?_; rintro e w' ⟨rfl, rfl⟩))
  go_ret
  exact ⟨rfl, rfl⟩
set_option maxHeartbeats 1000000 in
theorem month2 (y m d : Int) (h0 : 0 ≤ y) (h9 : y ≤ 9999) (h1 : 1 ≤ m) (h2 : m ≤ 11) (h3 : 1 ≤ d) (h4 : d ≤ Plain.dim y m) (h5 : Plain.dim y m < d + 1) (e9 : (y == 9999) = true) (e12 : (m == 12) = false) (w : World) : Calls Try.prog 10 #[.int .i64 y, .int .i64 m, .int .i64 d] w fun e w' => e = .returned (.bool true) ∧ w' = w := by
  have e0 : (Plain.civ 1970 1 1 != 0) = false := by rw [Plain.civ_epoch]; rfl
  obtain ⟨d1, d2⟩ := Plain.dim_bd y m
  obtain ⟨b1, b2⟩ := Plain.civ_bd y m d h0 (by omega) 100 (by omega) (by omega)
  have e1 : (Plain.civ y (m + 1) 1 == Plain.civ y m d + 1) = true := eqs (by have := Plain.cum_succ y m h1 (by omega); unfold Plain.civ; omega)
  go_enter Try.func10, Try.ntmps10
  go_wp2_with (first | (go_at_call 21; refine (monthLen_any _ _ (by omega) (by omega) _).mono ?_; rintro e w' ⟨rfl, rfl⟩) | (go_at_call 19; refine (zcivil_any _ _ _ (by omega) (by omega) (by omega) (by omega) (by omega) (by omega) _).mono ?_; rintro e w' ⟨rfl, rfl⟩))
  go_ret
  exact ⟨rfl, rfl⟩
theorem year_end (y d : Int) (h4 : d ≤ Plain.dim y 12) (h5 : Plain.dim y 12 < d + 1) : Plain.civ (y + 1) 1 1 = Plain.civ y 12 d + 1 := by
  have a := Plain.civ_gap_dec y
  have b := Plain.dim_dec y
  unfold Plain.civ at *
  omega
set_option maxHeartbeats 1000000 in
theorem year1 (y m d : Int) (h0 : 0 ≤ y) (h9 : y < 9999) (h1 : 11 < m) (h2 : m ≤ 12) (h3 : 1 ≤ d) (h4 : d ≤ Plain.dim y m) (h5 : Plain.dim y m < d + 1) (w : World) : Calls Try.prog 10 #[.int .i64 y, .int .i64 m, .int .i64 d] w fun e w' => e = .returned (.bool true) ∧ w' = w := by
  have e9 : (y == 9999) = false := nes (by omega)
  have e0 : (Plain.civ 1970 1 1 != 0) = false := by rw [Plain.civ_epoch]; rfl
  obtain ⟨d1, d2⟩ := Plain.dim_bd y m
  obtain ⟨b1, b2⟩ := Plain.civ_bd y m d h0 (by omega) 100 (by omega) (by omega)
  have e1 : (Plain.civ (y + 1) 1 1 == Plain.civ y m d + 1) = true := eqs (by
    have : m = 12 := by omega
    subst this
    exact year_end y d h4 h5)
  go_enter Try.func10, Try.ntmps10
  go_wp2_with (first | (go_at_call 21; refine (monthLen_any _ _ (by omega) (by omega) _).mono ?_; rintro e w' ⟨rfl, rfl⟩) | (go_at_call 19; refine (zcivil_any _ _ _ (by omega) (by omega) (by omega) (by omega) (by omega) (by omega) _).mono ?_; rintro e w' ⟨rfl, rfl⟩))
  go_ret
  exact ⟨rfl, rfl⟩
theorem all_dates (y m d : Int) (w : World) : Calls Try.prog 10 #[.int .i64 y, .int .i64 m, .int .i64 d] w fun e w' => e = .returned (.bool true) ∧ w' = w := by
  by_cases h0 : y < 0
  · exact out_a y m d h0 w
  by_cases h9 : 9999 < y
  · exact out_b y m d (by omega) h9 w
  by_cases h1 : m < 1
  · exact out_c y m d (by omega) (by omega) h1 w
  by_cases h2 : 12 < m
  · exact out_d y m d (by omega) (by omega) (by omega) h2 w
  by_cases h3 : d < 1
  · exact out_e y m d (by omega) (by omega) (by omega) (by omega) h3 w
  by_cases h4 : Plain.dim y m < d
  · exact out_f y m d (by omega) (by omega) (by omega) (by omega) (by omega) h4 w
  by_cases e9 : y = 9999
  · by_cases e12 : m = 12
    · by_cases e31 : d = 31
      · exact out_g y m d (by omega) (by omega) (by omega) (by omega) (by omega) (by omega) (eqs e9) (eqs e12) (eqs e31) w
      · have hd := Plain.dim_dec y
        exact same3 y m d (by omega) (by omega) (by omega) (by omega) (by omega) (by rw [e12] at h4 ⊢; omega) (eqs e9) (eqs e12) (nes e31) w
    · by_cases h5 : Plain.dim y m < d + 1
      · exact month2 y m d (by omega) (by omega) (by omega) (by omega) (by omega) (by omega) h5 (eqs e9) (nes e12) w
      · exact same2 y m d (by omega) (by omega) (by omega) (by omega) (by omega) (by omega) (eqs e9) (nes e12) w
  · by_cases h5 : Plain.dim y m < d + 1
    · by_cases h6 : m ≤ 11
      · exact month1 y m d (by omega) (by omega) (by omega) h6 (by omega) (by omega) h5 (nes e9) w
      · exact year1 y m d (by omega) (by omega) (by omega) (by omega) (by omega) (by omega) h5 w
    · exact same1 y m d (by omega) (by omega) (by omega) (by omega) (by omega) (by omega) (nes e9) w

theorem walk (a0 : Int) (a1 : Int) (a2 : Int) (w0 : (Lit.int .i64 a0).wf = true) (w1 : (Lit.int .i64 a1).wf = true) (w2 : (Lit.int .i64 a2).wf = true) (w : World) :
    Calls Try.prog 10 #[.int .i64 a0, .int .i64 a1, .int .i64 a2] w fun e w' => e = .returned (.bool true) ∧ Grown w w' :=
  (all_dates a0 a1 a2 w).mono fun e w' ⟨h1, h2⟩ => ⟨h1, h2 ▸ Grown.refl _⟩

/-! ### THE ROW's STEP: WRITTEN OUT: LEAVE IT -/
set_option maxRecDepth 100000 in
theorem lifted (os : Os) (started : os.Started) (H : Type) (enc : TypeId × Value → H) :
    ReturnsInHanded {} Try.checked os 10 .any (Rows.fnCivilDaysNextDayIsOneMoreSpec.pre6 enc Try.prog Try.f10 Rows.fnCivilDaysNextDayIsOneMoreRow.domain false) (Rows.fnCivilDaysNextDayIsOneMoreSpec.post enc Try.prog Try.f10 false true false false) := by
  refine returnsInHanded_of_change (C := Try.checked) own started (by kernel_rfl) Try.func10
    (ChangeSpec.witness6 (enc := enc) (C := Try.checked) false ⟨#[], #[.int .i64 0, .int .i64 0, .int .i64 0], []⟩ 8 (by kernel_rfl) (by kernel_rfl) (by kernel_rfl) (by kernel_rfl)) ?_
  intro W base args ds gs before hval0 hW hcnd _
  have hval : ∀ (j : Nat) t v, Try.f10.params[j]? = some t → args[j]? = some v → Value.okWide Try.prog W .any base t v := hval0
  have hW' := hW
  obtain ⟨p, q, hA0, hV, rfl, hfz, hnd⟩ := hW
  have hA : DataW.TrodAll enc Try.prog W 0 (fun _ => true) true Try.f10.params.toList args.toList ds p := hA0
  rw [Try.params10] at hA hval
  obtain ⟨v0, vs0, d0, ds0, p0, q0, hargs, rfl, rfl, h0, r0⟩ := trodAll_cons hA
  obtain ⟨v1, vs1, d1, ds1, p1, q1, rfl, rfl, rfl, h1, r1⟩ := trodAll_cons r0
  obtain ⟨v2, vs2, d2, ds2, p2, q2, rfl, rfl, rfl, h2, r2⟩ := trodAll_cons r1
  obtain ⟨rfl, rfl, rfl⟩ := trodAll_nil r2
  obtain rfl : args = #[v0, v1, v2] := by cases args; simp_all
  obtain ⟨rfl, rfl⟩ := trodVars_none hV
  obtain ⟨a0, rfl, rfl, rfl, w0⟩ := open_int Try.underlying2 (hval 0 2 v0 rfl rfl) h0
  obtain ⟨a1, rfl, rfl, rfl, w1⟩ := open_int Try.underlying2 (hval 1 2 v1 rfl rfl) h1
  obtain ⟨a2, rfl, rfl, rfl, w2⟩ := open_int Try.underlying2 (hval 2 2 v2 rfl rfl) h2
  clear hA0 hval0
  simp only [List.append_nil] at hW'
  refine (walk a0 a1 a2 w0 w1 w2 W).mono fun e W' ⟨he, hg⟩ => ?_
  subst he
  exact ⟨_, rfl, post_of_same (pa := []) (pv := []) hW' (fun _ _ _ => (trodAll_cons_mk (shut_bool Try.underlying4 _) trodAll_mk0)) (fun sp _ => (trodAll_cons_mk (shut_int Try.underlying2 w0) (trodAll_cons_mk (shut_int Try.underlying2 w1) (trodAll_cons_mk (shut_int Try.underlying2 w2) trodAll_mk0)))) (fun _ _ => rfl) rfl
    (hg.frame _) hg.2.1 (ok_one (by kernel_rfl) rfl (okWide_bool_mk Try.underlying4 _))⟩

theorem over : Rows.fnCivilDaysNextDayIsOneMoreRow.holds Try.pinned (OpenSpec.ofChange Rows.fnCivilDaysNextDayIsOneMoreSpec) :=
  OpenClaim.holds_of_wide 10 Try.f10 rfl rfl rfl rfl rfl rfl rfl ⟨rfl, rfl, rfl, rfl, rfl⟩ rfl rfl rfl rfl rfl (by kernel_rfl) Try.func10 (by kernel_rfl)
    (of_decide_eq_true (by kernel_rfl)) (by unfold Func.isWrapper; first | (rw [if_pos (by decide +kernel)]; kernel_rfl) | (rw [if_neg (by decide +kernel)]; exact ⟨rfl, rfl⟩))
    (fun os started H enc _ => lifted os started H enc)

/-- ████ THE STATEMENT ████ -/
theorem proved : Rows.FnCivilDaysNextDayIsOneMoreSaid :=
  over
end Go.Proofs.Qxb6602703a.fnCivilDaysNextDayIsOneMore
