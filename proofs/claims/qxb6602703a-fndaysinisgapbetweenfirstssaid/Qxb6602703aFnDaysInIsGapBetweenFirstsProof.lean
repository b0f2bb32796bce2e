/-
  THE PROOF OF 'Rows.FnDaysInIsGapBetweenFirstsSaid', in the frame that the guide's program wrote. Filled in: the walk.
-/
import Derived.Test.Qxb6602703aRows
import Derived.WalkKit
import Derived.ProofKit
import Derived.OpenShut
import Derived.ShutString
import Derived.Test.Qxb6602703aCal
namespace Go.Proofs.Qxb6602703a.fnDaysInIsGapBetweenFirsts
open Go.ChangeShapes Go.WideShapes Go.ChangeAt Go.RowKit
open Go.ChangeMaps (open_string shut_string)
set_option linter.unusedVariables false      -- a walk need not use every 'w<i>' (that an integer argument fits its kind)

theorem own : ownKnob Try.prog.godebug = none := by kernel_rfl

theorem eqs {a b : Int} (h : a = b) : (a == b) = true := by rw [beq_iff_eq]; exact h
theorem nes {a b : Int} (h : ¬ a = b) : (a == b) = false := by rw [beq_eq_false_iff_ne]; exact h

/-! ### Outside the years 0 to 9999 and the twelve months: true at once -/
theorem out_a (y m : Int) (h : y < 0) (w : World) : Calls Try.prog 7 #[.int .i64 y, .int .i64 m] w fun e w' => e = .returned (.bool true) ∧ w' = w := by
  go_enter Try.func7, Try.ntmps7
  go_wp2
  go_ret
  exact ⟨rfl, rfl⟩
theorem out_b (y m : Int) (h0 : 0 ≤ y) (h : 9999 < y) (w : World) : Calls Try.prog 7 #[.int .i64 y, .int .i64 m] w fun e w' => e = .returned (.bool true) ∧ w' = w := by
  go_enter Try.func7, Try.ntmps7
  go_wp2
  go_ret
  exact ⟨rfl, rfl⟩
theorem out_c (y m : Int) (h0 : 0 ≤ y) (h9 : y ≤ 9999) (h : m < 1) (w : World) : Calls Try.prog 7 #[.int .i64 y, .int .i64 m] w fun e w' => e = .returned (.bool true) ∧ w' = w := by
  go_enter Try.func7, Try.ntmps7
  go_wp2
  go_ret
  exact ⟨rfl, rfl⟩
theorem out_d (y m : Int) (h0 : 0 ≤ y) (h9 : y ≤ 9999) (h1 : 1 ≤ m) (h : 12 < m) (w : World) : Calls Try.prog 7 #[.int .i64 y, .int .i64 m] w fun e w' => e = .returned (.bool true) ∧ w' = w := by
  go_enter Try.func7, Try.ntmps7
  go_wp2
  go_ret
  exact ⟨rfl, rfl⟩

/-! ### Inside them -/
set_option maxHeartbeats 400000 in
theorem in_last (w : World) : Calls Try.prog 7 #[.int .i64 9999, .int .i64 12] w fun e w' => e = .returned (.bool true) ∧ w' = w := by
  have e1 : (Plain.dim 9999 12 == 31) = true := eqs (Plain.dim_dec _)
  have e2 : (Plain.civ 9999 12 31 - Plain.civ 9999 12 1 == 30) = true := eqs (by unfold Plain.civ; omega)
  have b1 := Plain.civ_bd 9999 12 31 (by omega) (by omega) 100 (by omega) (by omega)
  have b2 := Plain.civ_bd 9999 12 1 (by omega) (by omega) 100 (by omega) (by omega)
  obtain ⟨b3, b4⟩ := b1
  obtain ⟨b5, b6⟩ := b2
  go_enter Try.func7, Try.ntmps7
  go_wp2_with (first | (go_at_call 18; refine (zdaysIn_any _ _ _).mono ?_; rintro e w' ⟨rfl, rfl⟩) | (go_at_call 19; refine (zcivil_any _ _ _ (by omega) (by omega) (by omega) (by omega) (by omega) (by omega) _).mono ?_; rintro e w' ⟨rfl, rfl⟩))
  go_ret
  exact ⟨rfl, rfl⟩
set_option maxHeartbeats 400000 in
theorem in_dec (y : Int) (h0 : 0 ≤ y) (h9 : y < 9999) (w : World) : Calls Try.prog 7 #[.int .i64 y, .int .i64 12] w fun e w' => e = .returned (.bool true) ∧ w' = w := by
  have e0 : (y == 9999) = false := nes (by omega)
  have e1 : (Plain.dim y 12 == Plain.civ (y + 1) 1 1 - Plain.civ y 12 1) = true := eqs (by rw [Plain.dim_dec, Plain.civ_gap_dec])
  have b1 := Plain.civ_bd (y + 1) 1 1 (by omega) (by omega) 100 (by omega) (by omega)
  have b2 := Plain.civ_bd y 12 1 (by omega) (by omega) 100 (by omega) (by omega)
  obtain ⟨b3, b4⟩ := b1
  obtain ⟨b5, b6⟩ := b2
  go_enter Try.func7, Try.ntmps7
  go_wp2_with (first | (go_at_call 18; refine (zdaysIn_any _ _ _).mono ?_; rintro e w' ⟨rfl, rfl⟩) | (go_at_call 19; refine (zcivil_any _ _ _ (by omega) (by omega) (by omega) (by omega) (by omega) (by omega) _).mono ?_; rintro e w' ⟨rfl, rfl⟩))
  go_ret
  exact ⟨rfl, rfl⟩
set_option maxHeartbeats 400000 in
theorem in_other (y m : Int) (h0 : 0 ≤ y) (h9 : y ≤ 9999) (h1 : 1 ≤ m) (h2 : m ≤ 11) (w : World) : Calls Try.prog 7 #[.int .i64 y, .int .i64 m] w fun e w' => e = .returned (.bool true) ∧ w' = w := by
  have e0 : (m == 12) = false := nes (by omega)
  have e1 : (Plain.dim y m == Plain.civ y (m + 1) 1 - Plain.civ y m 1) = true := eqs (Plain.civ_gap y m h1 h2).symm
  have b1 := Plain.civ_bd y (m + 1) 1 (by omega) (by omega) 100 (by omega) (by omega)
  have b2 := Plain.civ_bd y m 1 (by omega) (by omega) 100 (by omega) (by omega)
  obtain ⟨b3, b4⟩ := b1
  obtain ⟨b5, b6⟩ := b2
  go_enter Try.func7, Try.ntmps7
  go_wp2_with (first | (go_at_call 18; refine (zdaysIn_any _ _ _).mono ?_; rintro e w' ⟨rfl, rfl⟩) | (go_at_call 19; refine (zcivil_any _ _ _ (by omega) (by omega) (by omega) (by omega) (by omega) (by omega) _).mono ?_; rintro e w' ⟨rfl, rfl⟩))
  go_ret
  exact ⟨rfl, rfl⟩
theorem all_dates (y m : Int) (w : World) : Calls Try.prog 7 #[.int .i64 y, .int .i64 m] w fun e w' => e = .returned (.bool true) ∧ w' = w := by
  by_cases h0 : y < 0
  · exact out_a y m h0 w
  by_cases h9 : 9999 < y
  · exact out_b y m (by omega) h9 w
  by_cases h1 : m < 1
  · exact out_c y m (by omega) (by omega) h1 w
  by_cases h2 : 12 < m
  · exact out_d y m (by omega) (by omega) (by omega) h2 w
  by_cases h3 : m = 12
  · subst h3
    by_cases h4 : y = 9999
    · subst h4; exact in_last w
    · exact in_dec y (by omega) (by omega) w
  · exact in_other y m (by omega) (by omega) (by omega) (by omega) w

theorem walk (a0 : Int) (a1 : Int) (w0 : (Lit.int .i64 a0).wf = true) (w1 : (Lit.int .i64 a1).wf = true) (w : World) :
    Calls Try.prog 7 #[.int .i64 a0, .int .i64 a1] w fun e w' => e = .returned (.bool true) ∧ Grown w w' :=
  (all_dates a0 a1 w).mono fun e w' ⟨h1, h2⟩ => ⟨h1, h2 ▸ Grown.refl _⟩

/-! ### THE ROW's STEP: WRITTEN OUT: LEAVE IT -/
set_option maxRecDepth 100000 in
theorem lifted (os : Os) (started : os.Started) (H : Type) (enc : TypeId × Value → H) :
    ReturnsInHanded {} Try.checked os 7 .any (Rows.fnDaysInIsGapBetweenFirstsSpec.pre6 enc Try.prog Try.f7 Rows.fnDaysInIsGapBetweenFirstsRow.domain false) (Rows.fnDaysInIsGapBetweenFirstsSpec.post enc Try.prog Try.f7 false true false false) := by
  refine returnsInHanded_of_change (C := Try.checked) own started (by kernel_rfl) Try.func7
    (ChangeSpec.witness6 (enc := enc) (C := Try.checked) false ⟨#[], #[.int .i64 0, .int .i64 0], []⟩ 8 (by kernel_rfl) (by kernel_rfl) (by kernel_rfl) (by kernel_rfl)) ?_
  intro W base args ds gs before hval0 hW hcnd _
  have hval : ∀ (j : Nat) t v, Try.f7.params[j]? = some t → args[j]? = some v → Value.okWide Try.prog W .any base t v := hval0
  have hW' := hW
  obtain ⟨p, q, hA0, hV, rfl, hfz, hnd⟩ := hW
  have hA : DataW.TrodAll enc Try.prog W 0 (fun _ => true) true Try.f7.params.toList args.toList ds p := hA0
  rw [Try.params7] at hA hval
  obtain ⟨v0, vs0, d0, ds0, p0, q0, hargs, rfl, rfl, h0, r0⟩ := trodAll_cons hA
  obtain ⟨v1, vs1, d1, ds1, p1, q1, rfl, rfl, rfl, h1, r1⟩ := trodAll_cons r0
  obtain ⟨rfl, rfl, rfl⟩ := trodAll_nil r1
  obtain rfl : args = #[v0, v1] := by cases args; simp_all
  obtain ⟨rfl, rfl⟩ := trodVars_none hV
  obtain ⟨a0, rfl, rfl, rfl, w0⟩ := open_int Try.underlying2 (hval 0 2 v0 rfl rfl) h0
  obtain ⟨a1, rfl, rfl, rfl, w1⟩ := open_int Try.underlying2 (hval 1 2 v1 rfl rfl) h1
  clear hA0 hval0
  simp only [List.append_nil] at hW'
  refine (walk a0 a1 w0 w1 W).mono fun e W' ⟨he, hg⟩ => ?_
  subst he
  exact ⟨_, rfl, post_of_same (pa := []) (pv := []) hW' (fun _ _ _ => (trodAll_cons_mk (shut_bool Try.underlying4 _) trodAll_mk0)) (fun sp _ => (trodAll_cons_mk (shut_int Try.underlying2 w0) (trodAll_cons_mk (shut_int Try.underlying2 w1) trodAll_mk0))) (fun _ _ => rfl) rfl
    (hg.frame _) hg.2.1 (ok_one (by kernel_rfl) rfl (okWide_bool_mk Try.underlying4 _))⟩

theorem over : Rows.fnDaysInIsGapBetweenFirstsRow.holds Try.pinned (OpenSpec.ofChange Rows.fnDaysInIsGapBetweenFirstsSpec) :=
  OpenClaim.holds_of_wide 7 Try.f7 rfl rfl rfl rfl rfl rfl rfl ⟨rfl, rfl, rfl, rfl, rfl⟩ rfl rfl rfl rfl rfl (by kernel_rfl) Try.func7 (by kernel_rfl)
    (of_decide_eq_true (by kernel_rfl)) (by unfold Func.isWrapper; first | (rw [if_pos (by decide +kernel)]; kernel_rfl) | (rw [if_neg (by decide +kernel)]; exact ⟨rfl, rfl⟩))
    (fun os started H enc _ => lifted os started H enc)

/-- ████ THE STATEMENT ████ -/
theorem proved : Rows.FnDaysInIsGapBetweenFirstsSaid :=
  over
end Go.Proofs.Qxb6602703a.fnDaysInIsGapBetweenFirsts
