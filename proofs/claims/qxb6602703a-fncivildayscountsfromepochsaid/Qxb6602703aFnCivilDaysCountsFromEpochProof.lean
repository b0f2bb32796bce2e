/-
  THE PROOF OF 'Rows.FnCivilDaysCountsFromEpochSaid', in the frame that the guide's program wrote. Filled in: the walk.
-/
import Derived.Test.Qxb6602703aRows
import Derived.WalkKit
import Derived.ProofKit
import Derived.OpenShut
import Derived.ShutString
import Derived.Test.Qxb6602703aCal
namespace Go.Proofs.Qxb6602703a.fnCivilDaysCountsFromEpoch
open Go.ChangeShapes Go.WideShapes Go.ChangeAt Go.RowKit
open Go.ChangeMaps (open_string shut_string)
set_option linter.unusedVariables false      -- a walk need not use every 'w<i>' (that an integer argument fits its kind)

theorem own : ownKnob Try.prog.godebug = none := by kernel_rfl

theorem eqs {a b : Int} (h : a = b) : (a == b) = true := by rw [beq_iff_eq]; exact h

/-! ### Outside the years 0 to 9999, the twelve months and the days within 2^40 of nought: true at once -/
theorem out0 (y m d : Int)  (h : y < 0) (w : World) : Calls Try.prog 9 #[.int .i64 y, .int .i64 m, .int .i64 d] w fun e w' => e = .returned (.bool true) ∧ w' = w := by
  go_enter Try.func9, Try.ntmps9
  go_wp2
  go_ret
  exact ⟨rfl, rfl⟩
theorem out1 (y m d : Int) (h0 : 0 ≤ y) (h : 9999 < y) (w : World) : Calls Try.prog 9 #[.int .i64 y, .int .i64 m, .int .i64 d] w fun e w' => e = .returned (.bool true) ∧ w' = w := by
  go_enter Try.func9, Try.ntmps9
  go_wp2
  go_ret
  exact ⟨rfl, rfl⟩
theorem out2 (y m d : Int) (h0 : 0 ≤ y) (h9 : y ≤ 9999) (h : m < 1) (w : World) : Calls Try.prog 9 #[.int .i64 y, .int .i64 m, .int .i64 d] w fun e w' => e = .returned (.bool true) ∧ w' = w := by
  go_enter Try.func9, Try.ntmps9
  go_wp2
  go_ret
  exact ⟨rfl, rfl⟩
theorem out3 (y m d : Int) (h0 : 0 ≤ y) (h9 : y ≤ 9999) (h1 : 1 ≤ m) (h : 12 < m) (w : World) : Calls Try.prog 9 #[.int .i64 y, .int .i64 m, .int .i64 d] w fun e w' => e = .returned (.bool true) ∧ w' = w := by
  go_enter Try.func9, Try.ntmps9
  go_wp2
  go_ret
  exact ⟨rfl, rfl⟩
theorem out4 (y m d : Int) (h0 : 0 ≤ y) (h9 : y ≤ 9999) (h1 : 1 ≤ m) (h2 : m ≤ 12) (h : d < -1099511627776) (w : World) : Calls Try.prog 9 #[.int .i64 y, .int .i64 m, .int .i64 d] w fun e w' => e = .returned (.bool true) ∧ w' = w := by
  go_enter Try.func9, Try.ntmps9
  go_wp2
  go_ret
  exact ⟨rfl, rfl⟩
theorem out5 (y m d : Int) (h0 : 0 ≤ y) (h9 : y ≤ 9999) (h1 : 1 ≤ m) (h2 : m ≤ 12) (h3 : -1099511627776 ≤ d) (h : 1099511627776 < d) (w : World) : Calls Try.prog 9 #[.int .i64 y, .int .i64 m, .int .i64 d] w fun e w' => e = .returned (.bool true) ∧ w' = w := by
  go_enter Try.func9, Try.ntmps9
  go_wp2
  go_ret
  exact ⟨rfl, rfl⟩

/-! ### From 1970 on -/
set_option maxHeartbeats 1000000 in
theorem late (y m d : Int) (h0 : 0 ≤ y) (h9 : y ≤ 9999) (h1 : 1 ≤ m) (h2 : m ≤ 12) (h3 : -1099511627776 ≤ d) (h4 : d ≤ 1099511627776) (h70 : 1970 ≤ y) (w : World) : Calls Try.prog 9 #[.int .i64 y, .int .i64 m, .int .i64 d] w fun e w' => e = .returned (.bool true) ∧ w' = w := by
  go_enter Try.func9, Try.ntmps9
  go_wp2_with fail
  go_loop [7, 8] (fun t i => ∃ n T : Int, 1970 ≤ n ∧ n ≤ y ∧ i = .int .i64 n ∧ t = .int .i64 T ∧ 0 ≤ T ∧ T ≤ 366 * (n - 1970) ∧ Hid (T + 719528 = Plain.dby n)) (fun _ i => (y - intOf i).toNat)
  case atStart => exact ⟨1970, 0, by omega, by omega, rfl, rfl, by omega, by omega, by show _ = _; rw [Plain.dby_1970]; omega⟩
  case round =>
    obtain ⟨n, T, hn1, hn2, rfl, rfl, hT0, hT1, HT⟩ := hrel
    by_cases hlt : n < y
    · obtain ⟨l1, l2⟩ := Plain.lp_01 n
      have HS : Hid (T + (365 + Plain.lp n) + 719528 = Plain.dby (n + 1)) := by have := HT.out; have := Plain.dby_succ n; exact (show _ = _ by omega)
      clear HT
      go_wp2_with (go_at_call 20; refine (yearLen_any _ _).mono ?_; rintro e w' ⟨rfl, rfl⟩)
      go_round
      case rel => exact ⟨n + 1, _, by omega, by omega, rfl, rfl, by omega, by omega, HS⟩
      case measure => simp [intOf]; omega
    · have en : y = n := by omega
      subst en
      go_wp2_with fail
      go_loop [7, 10] (fun t i => ∃ n : Int, 1 ≤ n ∧ n ≤ m ∧ i = .int .i64 n ∧ t = .int .i64 (T + Plain.cum y n)) (fun _ i => (m - intOf i).toNat)
      case atStart => exact ⟨1, by omega, by omega, rfl, by rw [Plain.cum_one]; go_num⟩
      case round =>
        obtain ⟨n, hn1, hn2, rfl, rfl⟩ := hrel
        obtain ⟨k1, k2⟩ := Plain.cum_hi y n
        by_cases hn : n < m
        · obtain ⟨l1, l2⟩ := Plain.dim_bd y n
          go_wp2_with (go_at_call 21; refine (monthLen_any _ _ (by omega) (by omega) _).mono ?_; rintro e w' ⟨rfl, rfl⟩)
          go_round
          case rel => exact ⟨n + 1, by omega, by omega, rfl, by rw [Plain.cum_succ y n hn1 (by omega)]; go_num⟩
          case measure => simp [intOf]; omega
        · have en : n = m := by omega
          subst en
          have e1 : (Plain.civ y n d == T + Plain.cum y n + (d - 1)) = true := eqs (by have := HT.out; unfold Plain.civ; omega)
          clear HT
          go_wp2_with (go_at_call 19; refine (zcivil_any _ _ _ (by omega) (by omega) (by omega) (by omega) (by omega) (by omega) _).mono ?_; rintro e w' ⟨rfl, rfl⟩)
          go_ret
          exact ⟨rfl, rfl⟩

/-! ### Before 1970 -/
set_option maxHeartbeats 1000000 in
theorem early (y m d : Int) (h0 : 0 ≤ y) (h9 : y ≤ 9999) (h1 : 1 ≤ m) (h2 : m ≤ 12) (h3 : -1099511627776 ≤ d) (h4 : d ≤ 1099511627776) (h70 : y < 1970) (w : World) : Calls Try.prog 9 #[.int .i64 y, .int .i64 m, .int .i64 d] w fun e w' => e = .returned (.bool true) ∧ w' = w := by
  go_enter Try.func9, Try.ntmps9
  go_wp2_with fail
  go_loop [7, 9] (fun t i => ∃ n T : Int, y ≤ n ∧ n ≤ 1970 ∧ i = .int .i64 n ∧ t = .int .i64 T ∧ T ≤ 0 ∧ -(366 * (n - y)) ≤ T ∧ Hid (T + Plain.dby n = Plain.dby y)) (fun _ i => (1970 - intOf i).toNat)
  case atStart => exact ⟨y, 0, by omega, by omega, rfl, rfl, by omega, by omega, by show _ = _; omega⟩
  case round =>
    obtain ⟨n, T, hn1, hn2, rfl, rfl, hT0, hT1, HT⟩ := hrel
    by_cases hlt : n < 1970
    · obtain ⟨l1, l2⟩ := Plain.lp_01 n
      have HS : Hid (T - (365 + Plain.lp n) + Plain.dby (n + 1) = Plain.dby y) := by have := HT.out; have := Plain.dby_succ n; exact (show _ = _ by omega)
      clear HT
      go_wp2_with (go_at_call 20; refine (yearLen_any _ _).mono ?_; rintro e w' ⟨rfl, rfl⟩)
      go_round
      case rel => exact ⟨n + 1, _, by omega, by omega, rfl, rfl, by omega, by omega, HS⟩
      case measure => simp [intOf]; omega
    · have en : n = 1970 := by omega
      subst en
      have HT' : Hid (T + 719528 = Plain.dby y) := by have := HT.out; rw [Plain.dby_1970] at this; exact this
      clear HT
      have HT := HT'
      clear HT'
      go_wp2_with fail
      go_loop [7, 10] (fun t i => ∃ n : Int, 1 ≤ n ∧ n ≤ m ∧ i = .int .i64 n ∧ t = .int .i64 (T + Plain.cum y n)) (fun _ i => (m - intOf i).toNat)
      case atStart => exact ⟨1, by omega, by omega, rfl, by rw [Plain.cum_one]; go_num⟩
      case round =>
        obtain ⟨n, hn1, hn2, rfl, rfl⟩ := hrel
        obtain ⟨k1, k2⟩ := Plain.cum_hi y n
        by_cases hn : n < m
        · obtain ⟨l1, l2⟩ := Plain.dim_bd y n
          go_wp2_with (go_at_call 21; refine (monthLen_any _ _ (by omega) (by omega) _).mono ?_; rintro e w' ⟨rfl, rfl⟩)
          go_round
          case rel => exact ⟨n + 1, by omega, by omega, rfl, by rw [Plain.cum_succ y n hn1 (by omega)]; go_num⟩
          case measure => simp [intOf]; omega
        · have en : n = m := by omega
          subst en
          have e1 : (Plain.civ y n d == T + Plain.cum y n + (d - 1)) = true := eqs (by have := HT.out; unfold Plain.civ; omega)
          clear HT
          go_wp2_with (go_at_call 19; refine (zcivil_any _ _ _ (by omega) (by omega) (by omega) (by omega) (by omega) (by omega) _).mono ?_; rintro e w' ⟨rfl, rfl⟩)
          go_ret
          exact ⟨rfl, rfl⟩

theorem all_dates (y m d : Int) (w : World) : Calls Try.prog 9 #[.int .i64 y, .int .i64 m, .int .i64 d] w fun e w' => e = .returned (.bool true) ∧ w' = w := by
  by_cases n0 : y < 0
  · exact out0 y m d  n0 w
  by_cases n1 : 9999 < y
  · exact out1 y m d (by omega) n1 w
  by_cases n2 : m < 1
  · exact out2 y m d (by omega) (by omega) n2 w
  by_cases n3 : 12 < m
  · exact out3 y m d (by omega) (by omega) (by omega) n3 w
  by_cases n4 : d < -1099511627776
  · exact out4 y m d (by omega) (by omega) (by omega) (by omega) n4 w
  by_cases n5 : 1099511627776 < d
  · exact out5 y m d (by omega) (by omega) (by omega) (by omega) (by omega) n5 w
  by_cases h70 : 1970 ≤ y
  · exact late y m d (by omega) (by omega) (by omega) (by omega) (by omega) (by omega) h70 w
  · exact early y m d (by omega) (by omega) (by omega) (by omega) (by omega) (by omega) (by omega) w

theorem walk (a0 : Int) (a1 : Int) (a2 : Int) (w0 : (Lit.int .i64 a0).wf = true) (w1 : (Lit.int .i64 a1).wf = true) (w2 : (Lit.int .i64 a2).wf = true) (w : World) :
    Calls Try.prog 9 #[.int .i64 a0, .int .i64 a1, .int .i64 a2] w fun e w' => e = .returned (.bool true) ∧ Grown w w' :=
  (all_dates a0 a1 a2 w).mono fun e w' ⟨h1, h2⟩ => ⟨h1, h2 ▸ Grown.refl _⟩

/-! ### THE ROW's STEP: WRITTEN OUT: LEAVE IT -/
set_option maxRecDepth 100000 in
theorem lifted (os : Os) (started : os.Started) (H : Type) (enc : TypeId × Value → H) :
    ReturnsInHanded {} Try.checked os 9 .any (Rows.fnCivilDaysCountsFromEpochSpec.pre6 enc Try.prog Try.f9 Rows.fnCivilDaysCountsFromEpochRow.domain false) (Rows.fnCivilDaysCountsFromEpochSpec.post enc Try.prog Try.f9 false true false false) := by
  refine returnsInHanded_of_change (C := Try.checked) own started (by kernel_rfl) Try.func9
    (ChangeSpec.witness6 (enc := enc) (C := Try.checked) false ⟨#[], #[.int .i64 0, .int .i64 0, .int .i64 0], []⟩ 8 (by kernel_rfl) (by kernel_rfl) (by kernel_rfl) (by kernel_rfl)) ?_
  intro W base args ds gs before hval0 hW hcnd _
  have hval : ∀ (j : Nat) t v, Try.f9.params[j]? = some t → args[j]? = some v → Value.okWide Try.prog W .any base t v := hval0
  have hW' := hW
  obtain ⟨p, q, hA0, hV, rfl, hfz, hnd⟩ := hW
  have hA : DataW.TrodAll enc Try.prog W 0 (fun _ => true) true Try.f9.params.toList args.toList ds p := hA0
  rw [Try.params9] at hA hval
  obtain ⟨v0, vs0, d0, ds0, p0, q0, hargs, rfl, rfl, h0, r0⟩ := trodAll_cons hA
  obtain ⟨v1, vs1, d1, ds1, p1, q1, rfl, rfl, rfl, h1, r1⟩ := trodAll_cons r0
  obtain ⟨v2, vs2, d2, ds2, p2, q2, rfl, rfl, rfl, h2, r2⟩ := trodAll_cons r1
  obtain ⟨rfl, rfl, rfl⟩ := trodAll_nil r2
  obtain rfl : args = #[v0, v1, v2] := by cases args; simp_all
  obtain ⟨rfl, rfl⟩ := trodVars_none hV
  obtain ⟨a0, rfl, rfl, rfl, w0⟩ := open_int Try.underlying2 (hval 0 2 v0 rfl rfl) h0
  obtain ⟨a1, rfl, rfl, rfl, w1⟩ := open_int Try.underlying2 (hval 1 2 v1 rfl rfl) h1
  obtain ⟨a2, rfl, rfl, rfl, w2⟩ := open_int Try.underlying2 (hval 2 2 v2 rfl rfl) h2
  clear hA0 hval0
  simp only [List.append_nil] at hW'
  refine (walk a0 a1 a2 w0 w1 w2 W).mono fun e W' ⟨he, hg⟩ => ?_
  subst he
  exact ⟨_, rfl, post_of_same (pa := []) (pv := []) hW' (fun _ _ _ => (trodAll_cons_mk (shut_bool Try.underlying4 _) trodAll_mk0)) (fun sp _ => (trodAll_cons_mk (shut_int Try.underlying2 w0) (trodAll_cons_mk (shut_int Try.underlying2 w1) (trodAll_cons_mk (shut_int Try.underlying2 w2) trodAll_mk0)))) (fun _ _ => rfl) rfl
    (hg.frame _) hg.2.1 (ok_one (by kernel_rfl) rfl (okWide_bool_mk Try.underlying4 _))⟩

theorem over : Rows.fnCivilDaysCountsFromEpochRow.holds Try.pinned (OpenSpec.ofChange Rows.fnCivilDaysCountsFromEpochSpec) :=
  OpenClaim.holds_of_wide 9 Try.f9 rfl rfl rfl rfl rfl rfl rfl ⟨rfl, rfl, rfl, rfl, rfl⟩ rfl rfl rfl rfl rfl (by kernel_rfl) Try.func9 (by kernel_rfl)
    (of_decide_eq_true (by kernel_rfl)) (by unfold Func.isWrapper; first | (rw [if_pos (by decide +kernel)]; kernel_rfl) | (rw [if_neg (by decide +kernel)]; exact ⟨rfl, rfl⟩))
    (fun os started H enc _ => lifted os started H enc)

/-- ████ THE STATEMENT ████ -/
theorem proved : Rows.FnCivilDaysCountsFromEpochSaid :=
  over
end Go.Proofs.Qxb6602703a.fnCivilDaysCountsFromEpoch
