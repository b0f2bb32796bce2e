/-
  THE PROOF OF 'Rows.FnDaysInFourHundredYearCycleSaid', in the frame that the guide's program wrote. Filled in: the walk.
-/
import Derived.Test.Qxb6602703aRows
import Derived.WalkKit
import Derived.ProofKit
import Derived.OpenShut
import Derived.ShutString
import Derived.Test.Qxb6602703aCal
namespace Go.Proofs.Qxb6602703a.fnDaysInFourHundredYearCycle
open Go.ChangeShapes Go.WideShapes Go.ChangeAt Go.RowKit
open Go.ChangeMaps (open_string shut_string)
set_option linter.unusedVariables false      -- a walk need not use every 'w<i>' (that an integer argument fits its kind)

theorem own : ownKnob Try.prog.godebug = none := by kernel_rfl

/-! ### STEP 1: THE WALK: the Go text returns true. 'Grown w w'': the world has at most new blocks (Derived/RowKit3.lean). Part the cases AHEAD of 'go_enter' where a test parts the walk; take each callee by a contract of your own. -/
set_option maxHeartbeats 1000000 in
theorem walk_in (a0 : Int) (hlo : -9223372036854775808 ≤ a0) (hhi : a0 ≤ 9223372036854775408) (w : World) :
    Calls Try.prog 8 #[.int .i64 a0] w fun e w' => e = .returned (.bool true) ∧ w' = w := by
  go_enter Try.func8, Try.ntmps8
  go_wp2
  go_loop [3, 4, 5, 6] (fun t l o i => ∃ k T L : Int, 0 ≤ k ∧ k ≤ 400 ∧ i = .int .i64 k ∧ 0 ≤ T ∧ T ≤ 366 * k ∧ 0 ≤ L ∧ L ≤ k ∧ o = .bool true ∧ t = .int .i64 T ∧ l = .int .i64 L ∧
      Plain.dby a0 + T = Plain.dby (a0 + k) ∧ Plain.lps a0 + L = Plain.lps (a0 + k)) (fun _ _ _ i => (400 - intOf i).toNat)
  case atStart => exact ⟨0, 0, 0, by omega, by omega, rfl, by omega, by omega, by omega, by omega, rfl, rfl, rfl, by simp, by simp⟩
  case round =>
    obtain ⟨k, T, L, hk0, hk4, rfl, hT0, hT, hL0, hL, rfl, rfl, rfl, hdT, hdL⟩ := hrel
    have HT : Hid (Plain.dby a0 + T = Plain.dby (a0 + k)) := hdT
    have HL : Hid (Plain.lps a0 + L = Plain.lps (a0 + k)) := hdL
    clear hdT hdL
    by_cases hlt : k < 400
    · go_wp2_with fail
      go_loop [5, 8, 9] (fun o t m => ∃ n : Int, 1 ≤ n ∧ n ≤ 13 ∧ m = .int .i64 n ∧ t = .int .i64 (Plain.cum (a0 + k) n) ∧ o = .bool true) (fun _ _ m => (13 - intOf m).toNat)
      case atStart => exact ⟨1, by omega, by omega, rfl, by rw [Plain.cum_one], rfl⟩
      case round =>
        obtain ⟨n, hn1, hn2, rfl, rfl, rfl⟩ := hrel
        obtain ⟨hc1, hc2⟩ := Plain.cum_hi (a0 + k) n
        by_cases hn : n ≤ 12
        · obtain ⟨hd1, hd2⟩ := Plain.dim_bd (a0 + k) n
          go_wp2_with (go_at_call 18; refine (zdaysIn_any _ _ _).mono ?_; rintro e w' ⟨rfl, rfl⟩)
          go_round
          case rel => exact ⟨n + 1, by omega, by omega, rfl, by rw [Plain.cum_succ _ _ hn1 hn], rfl⟩
          case measure => simp [intOf]; omega
        · have en : n = 13 := by omega
          subst en
          clear hn hn1 hn2
          have hsd := Plain.dby_succ (a0 + k)
          have hsl := Plain.lps_succ (a0 + k)
          have hcy := Plain.cum_thirteen (a0 + k)
          have hlp := Plain.lp_01 (a0 + k)
          have hdf : Plain.dim (a0 + k) 2 = 28 + Plain.lp (a0 + k) := by simp [Plain.dim]
          rw [Int.add_assoc] at hsd hsl
          by_cases hl : Plain.lp (a0 + k) = 1
          · have e1 : (Plain.cum (a0 + k) 13 == 366) = true := by rw [beq_iff_eq]; omega
            have e2 : (Plain.dim (a0 + k) 2 == 29) = true := by rw [beq_iff_eq]; omega
            have HR : Hid (Plain.dby a0 + (T + Plain.cum (a0 + k) 13) = Plain.dby (a0 + (k + 1)) ∧ Plain.lps a0 + (L + 1) = Plain.lps (a0 + (k + 1))) := by
              have := HT.out; have := HL.out; exact (show _ ∧ _ from ⟨by omega, by omega⟩)
            clear hsd hsl hcy hlp hdf hl HT HL
            go_wp2_with (go_at_call 18; refine (zdaysIn_any _ _ _).mono ?_; rintro e w' ⟨rfl, rfl⟩)
            go_round
            case rel => exact ⟨k + 1, _, _, by omega, by omega, rfl, by omega, by omega, by omega, by omega, rfl, rfl, rfl, HR.out.1, HR.out.2⟩
            case measure => simp [intOf]; omega
          · have e1 : (Plain.cum (a0 + k) 13 == 366) = false := by rw [beq_eq_false_iff_ne]; omega
            have e2 : (Plain.cum (a0 + k) 13 != 365) = false := by simp; omega
            have e3 : (Plain.dim (a0 + k) 2 != 28) = false := by simp; omega
            have HR : Hid (Plain.dby a0 + (T + Plain.cum (a0 + k) 13) = Plain.dby (a0 + (k + 1)) ∧ Plain.lps a0 + L = Plain.lps (a0 + (k + 1))) := by
              have := HT.out; have := HL.out; exact (show _ ∧ _ from ⟨by omega, by omega⟩)
            clear hsd hsl hcy hlp hdf hl HT HL
            go_wp2_with (go_at_call 18; refine (zdaysIn_any _ _ _).mono ?_; rintro e w' ⟨rfl, rfl⟩)
            go_round
            case rel => exact ⟨k + 1, _, _, by omega, by omega, rfl, by omega, by omega, by omega, by omega, rfl, rfl, rfl, HR.out.1, HR.out.2⟩
            case measure => simp [intOf]; omega
    · have ek : k = 400 := by omega
      subst ek
      have hc := Plain.dby_cycle a0
      have hc' := Plain.lps_cycle a0
      have e1 : (T == 146097) = true := by have := HT.out; rw [beq_iff_eq]; omega
      have e2 : (L == 97) = true := by have := HL.out; rw [beq_iff_eq]; omega
      clear hc hc' HT HL
      go_wp2
      go_ret
      exact ⟨rfl, rfl⟩

theorem walk (a0 : Int) (w0 : (Lit.int .i64 a0).wf = true) (w : World) :
    Calls Try.prog 8 #[.int .i64 a0] w fun e w' => e = .returned (.bool true) ∧ Grown w w' := by
  have b : -9223372036854775808 ≤ a0 ∧ a0 ≤ 9223372036854775807 := by
    simp only [Lit.wf, Bool.and_eq_true, decide_eq_true_eq] at w0; exact w0
  by_cases h : a0 ≤ 9223372036854775408
  · exact (walk_in a0 b.1 h w).mono fun e w' ⟨h1, h2⟩ => ⟨h1, h2 ▸ Grown.refl _⟩
  · have h' : 9223372036854775408 < a0 := by omega
    clear h b w0
    go_enter Try.func8, Try.ntmps8
    go_wp2
    go_ret
    exact ⟨rfl, Grown.refl _⟩

/-! ### THE ROW's STEP: WRITTEN OUT: LEAVE IT -/
set_option maxRecDepth 100000 in
theorem lifted (os : Os) (started : os.Started) (H : Type) (enc : TypeId × Value → H) :
    ReturnsInHanded {} Try.checked os 8 .any (Rows.fnDaysInFourHundredYearCycleSpec.pre6 enc Try.prog Try.f8 Rows.fnDaysInFourHundredYearCycleRow.domain false) (Rows.fnDaysInFourHundredYearCycleSpec.post enc Try.prog Try.f8 false true false false) := by
  refine returnsInHanded_of_change (C := Try.checked) own started (by kernel_rfl) Try.func8
    (ChangeSpec.witness6 (enc := enc) (C := Try.checked) false ⟨#[], #[.int .i64 0], []⟩ 8 (by kernel_rfl) (by kernel_rfl) (by kernel_rfl) (by kernel_rfl)) ?_
  intro W base args ds gs before hval0 hW hcnd _
  have hval : ∀ (j : Nat) t v, Try.f8.params[j]? = some t → args[j]? = some v → Value.okWide Try.prog W .any base t v := hval0
  have hW' := hW
  obtain ⟨p, q, hA0, hV, rfl, hfz, hnd⟩ := hW
  have hA : DataW.TrodAll enc Try.prog W 0 (fun _ => true) true Try.f8.params.toList args.toList ds p := hA0
  rw [Try.params8] at hA hval
  obtain ⟨v0, vs0, d0, ds0, p0, q0, hargs, rfl, rfl, h0, r0⟩ := trodAll_cons hA
  obtain ⟨rfl, rfl, rfl⟩ := trodAll_nil r0
  obtain rfl : args = #[v0] := by cases args; simp_all
  obtain ⟨rfl, rfl⟩ := trodVars_none hV
  obtain ⟨a0, rfl, rfl, rfl, w0⟩ := open_int Try.underlying2 (hval 0 2 v0 rfl rfl) h0
  clear hA0 hval0
  simp only [List.append_nil] at hW'
  refine (walk a0 w0 W).mono fun e W' ⟨he, hg⟩ => ?_
  subst he
  exact ⟨_, rfl, post_of_same (pa := []) (pv := []) hW' (fun _ _ _ => (trodAll_cons_mk (shut_bool Try.underlying4 _) trodAll_mk0)) (fun sp _ => (trodAll_cons_mk (shut_int Try.underlying2 w0) trodAll_mk0)) (fun _ _ => rfl) rfl
    (hg.frame _) hg.2.1 (ok_one (by kernel_rfl) rfl (okWide_bool_mk Try.underlying4 _))⟩

theorem over : Rows.fnDaysInFourHundredYearCycleRow.holds Try.pinned (OpenSpec.ofChange Rows.fnDaysInFourHundredYearCycleSpec) :=
  OpenClaim.holds_of_wide 8 Try.f8 rfl rfl rfl rfl rfl rfl rfl ⟨rfl, rfl, rfl, rfl, rfl⟩ rfl rfl rfl rfl rfl (by kernel_rfl) Try.func8 (by kernel_rfl)
    (of_decide_eq_true (by kernel_rfl)) (by unfold Func.isWrapper; first | (rw [if_pos (by decide +kernel)]; kernel_rfl) | (rw [if_neg (by decide +kernel)]; exact ⟨rfl, rfl⟩))
    (fun os started H enc _ => lifted os started H enc)

/-- ████ THE STATEMENT ████ -/
theorem proved : Rows.FnDaysInFourHundredYearCycleSaid :=
  over
end Go.Proofs.Qxb6602703a.fnDaysInFourHundredYearCycle
