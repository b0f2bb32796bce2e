/-
  THE PROOF OF 'Rows.FnNumberReadsDecimalTextSaid', in the frame that the guide's program wrote. Filled in: the walk. Turned in the frame: the walk ends in 'Below' (it makes memory), so 'post' is given limb by limb, as the frame for slices does.
-/
import Derived.Test.Qxb6602703aRows
import Derived.WalkKit
import Derived.ProofKit
import Derived.OpenShut
import Derived.ShutString
import Derived.ChangeOld
import Derived.Below
import Derived.Test.Qxb6602703aUtoa
namespace Go.Proofs.Qxb6602703a.fnNumberReadsDecimalText
open Go.ChangeShapes Go.WideShapes Go.ChangeAt Go.RowKit
open Go.ChangeMaps (open_string shut_string)
set_option linter.unusedVariables false      -- a walk need not use every 'w<i>' (that an integer argument fits its kind)

theorem own : ownKnob Try.prog.godebug = none := by kernel_rfl

theorem dig_bytes (ds : List Int) (h : ds.all Plain.isDig = true) : ∀ j, 0 ≤ ds.getD j 0 ∧ ds.getD j 0 ≤ 255 := by
  intro j
  by_cases hj : j < ds.length
  · have := of_decide_eq_true (List.all_eq_true.1 h ds[j] (List.getElem_mem hj))
    simp only [List.getD_eq_getElem?_getD, List.getElem?_eq_getElem hj, Option.getD_some]; omega
  · have e : ds[j]? = none := List.getElem?_eq_none (by omega)
    simp only [List.getD_eq_getElem?_getD, e, Option.getD_none]; omega
theorem num_text (ds : List Int) (u : Int) (h : ds.all Plain.isDig = true) (hu : Plain.hor ds = u) : Plain.num ds = wrap64 u := by
  rw [num_good ds h, hu]
set_option maxHeartbeats 400000 in
theorem reads_nonneg (n : Int) (h0 : 0 ≤ n) (h1 : n ≤ 9223372036854775807) (w : World) :
    Calls Try.prog 4 #[.int .i64 n] w fun e w' => e = .returned (.bool true) ∧ Below w.heap.size w w' := by
  go_enter Try.func4, Try.ntmps4
  go_wp2_with fail
  refine (utoa_any n h0 (by omega) _).mono ?_
  rintro e w1 ⟨g, ds, rfl, hd1, hd2, hall, hhor, hg0, hg1, hcells, hbel⟩
  have HN : (Plain.num ds == n) = true := by rw [num_text ds n hall hhor, IntWalk.wrap64_in n ⟨by omega, h1⟩]; simp
  have HB : Hid (Below w.heap.size w w1) := hbel
  have HZ : Hid (Calls Try.prog 14 #[.slice (some ⟨g, 0, none⟩) ds.length ds.length] w1 fun e w' => e = .returned (.int .i64 (Plain.num ds)) ∧ w' = w1) :=
    znumber_row g 0 ds.length ds.length ds w1 rfl (by omega) (fun j hj => by rw [Nat.zero_add]; exact hcells j hj) (dig_bytes ds hall)
  clear hall hhor hcells hbel hg0 hg1
  go_wp2_with fail
  refine HZ.out.mono ?_
  rintro e w2 ⟨rfl, rfl⟩
  go_wp2_with fail
  go_ret
  exact ⟨rfl, HB.out⟩
theorem neg_mag (n : Int) (h0 : n < 0) (h1 : -9223372036854775808 ≤ n) : IntKind.u64.wrap (-IntKind.u64.wrap n) = -n := by
  simp only [IntKind.wrap, IntKind.bits, IntKind.signed]
  simp
  omega
theorem cell_alloc {w : World} {o : Obj} {a : Addr} {v : Value} (h : w.cell? a = some v) : (w.alloc o).cell? a = some v :=
  (World.cell?_of_block (Below.heap_alloc w o a.block (World.block_lt_of_cell? w a h))).trans h
/-- What the two appends of 'signed' leave: the digits still lie where they lay; the minus sign and the digits lie in the new row. -/
theorem signed_left {w w1 w2 w3 w4 : World} {g : Nat} {ds : List Int} {o : Obj} (hg : g < w1.heap.size) (hw : w.heap.size ≤ w1.heap.size) (hb : Below w.heap.size w w1)
    (hc : ∀ j, j < ds.length → w1.cell? ⟨g, j, none⟩ = some (.int .u8 (ds.getD j 0)))
    (g2 : w1.grownBy w2 none) (g3 : (w2.alloc o).grownBy w3 (some w1.heap.size)) (g4 : w3.grownBy w4 (some w1.heap.size))
    (h4 : w4.ownsRow w.heap.size 5 1 (.slice (some ⟨w1.heap.size, 0, none⟩) (1 + ds.length) (ds.length + 1)) (1 + ds.length) ([Value.int .u8 45] ++ ds.map (Value.int .u8))) :
    (∀ j, j < ds.length → w4.cell? ⟨g, j, none⟩ = some (.int .u8 (ds.getD j 0))) ∧
    (∀ j, j < 1 + ds.length → w4.cell? ⟨w1.heap.size, j, none⟩ = some (.int .u8 ((45 :: ds).getD j 0))) ∧ Below w.heap.size w w4 := by
  have s2 := g2.size
  have s3 := g3.size
  simp only [World.size_alloc] at s3
  refine ⟨fun j hj => ?_, fun j hj => ?_, ?_⟩
  · exact g4.cell (g3.cell (cell_alloc (g2.cell (hc j hj) (by simp))) (by simp; omega)) (by simp; omega)
  · rw [h4.cellAt j (by omega)]
    match j with
    | 0 => rfl
    | j + 1 =>
      have : j < ds.length := by omega
      simp [this]
  · have b2 := hb.grown g2 hw (fun k hk => by cases hk)
    have b3 := (b2.alloc (by omega) o).grown g3 (by simp; omega) (fun k hk => by cases hk; exact hw)
    exact b3.grown g4 (by omega) (fun k hk => by cases hk; exact hw)
theorem signed_src {w1 w2 w3 : World} {g : Nat} {ds : List Int} {o : Obj} (hg : g < w1.heap.size)
    (hc : ∀ j, j < ds.length → w1.cell? ⟨g, j, none⟩ = some (.int .u8 (ds.getD j 0)))
    (g2 : w1.grownBy w2 none) (g3 : (w2.alloc o).grownBy w3 (some w1.heap.size)) :
    ∀ j u, (ds.map (Value.int .u8))[j]? = some u → w3.cell? ((⟨g, 0, none⟩ : Addr).add j) = some u := by
  intro j u hu
  have hj : j < ds.length := by
    rcases Nat.lt_or_ge j ds.length with h | h
    · exact h
    · rw [List.getElem?_eq_none (by simpa using h)] at hu; cases hu
  have e : u = .int .u8 (ds.getD j 0) := by
    rw [List.getElem?_map, List.getElem?_eq_getElem hj] at hu
    simp at hu
    simp [hu, hj]
  have : w3.cell? ⟨g, j, none⟩ = some (.int .u8 (ds.getD j 0)) := g3.cell (cell_alloc (g2.cell (hc j hj) (by simp))) (by simp; omega)
  rw [e, ← this]
  cases j <;> simp [Addr.add]
theorem cell_new1 (w : World) (x : Value) (t : TypeId) : ∀ j u, [x][j]? = some u → (w.alloc (.cells #[x] t)).cell? ((⟨w.heap.size, 0, none⟩ : Addr).add j) = some u := by
  intro j u hj
  match j, hj with
  | 0, hj => simp at hj; subst hj; simp [Addr.add]
  | j + 1, hj => simp at hj
theorem ints_one (ds : List Int) : ∀ u ∈ ds.map (Value.int .u8), u.oneCell' = true := by
  intro u hu
  obtain ⟨d, _, rfl⟩ := List.mem_map.1 hu
  rfl
set_option maxHeartbeats 1000000 in
theorem reads_neg (n : Int) (h0 : n < 0) (h1 : -9223372036854775808 ≤ n) (w : World) :
    Calls Try.prog 4 #[.int .i64 n] w fun e w' => e = .returned (.bool true) ∧ Below w.heap.size w w' := by
  obtain ⟨i0, hi, hz0, hz1, hz2⟩ := info_parts Try.info5
  have HI : Hid (Try.prog.info? 5 = some i0 ∧ i0.zero = some (.int .u8 0) ∧ i0.size = 1 ∧ i0.bytes = 1) := ⟨hi, hz0, hz1, hz2⟩
  clear hi hz0 hz1 hz2
  have HM : Hid (IntKind.u64.wrap (-IntKind.u64.wrap n) = -n) := neg_mag n h0 h1
  go_enter Try.func4, Try.ntmps4
  go_wp2_with fail
  refine (utoa_any _ (by rw [HM.out]; omega) (by rw [HM.out]; omega) _).mono ?_
  rintro e w1 ⟨g, ds, rfl, hd1, hd2, hall, hhor, hg0, hg1, hcells, hbel⟩
  rw [HM.out] at hhor
  have HA : Hid (ds.all Plain.isDig = true ∧ Plain.hor ds = -n) := ⟨hall, hhor⟩
  have HB : Hid (Below w.heap.size w w1) := hbel
  have HC : Hid (∀ j, j < ds.length → w1.cell? ⟨g, j, none⟩ = some (.int .u8 (ds.getD j 0))) := hcells
  have hw1 := hbel.size
  clear hall hhor hcells hbel
  go_wp2_with (at_make; refine wpList_make_own _ rfl _ _ 22 rfl w.heap.size 5 i0 (.int .u8 0) 1 Try.underlying22 HI.out.1 HI.out.2.1 HI.out.2.2.1 _ _ _ (ds.length + 1) rfl rfl (by omega) (by rw [HI.out.2.2.2]; omega) (by unfold maxLen; omega) hw1 ?_)
  intro w2 hown2 hgrow2
  go_wp2_with (at_builtin; (refine wpList_append_fits _ rfl (.tmp 24) (.tmp 25) 22 rfl w.heap.size 5 i0 1 Try.underlying22 HI.out.1 HI.out.2.2.1 w1.heap.size 0 (ds.length + 1) [] rfl (hown2.alloc _) ⟨w2.heap.size, 0, none⟩ 1 1 [.int .u8 45] rfl rfl (cell_new1 _ _ _) (by simp [Value.oneCell']) (by omega) ?_))
  intro w3 hown3 hgrow3
  have HS := signed_src hg1 HC.out hgrow2 hgrow3
  go_wp2_with (at_builtin; refine wpList_append_fits _ rfl (.tmp 27) (.tmp 28) 22 rfl w.heap.size 5 i0 1 Try.underlying22 HI.out.1 HI.out.2.2.1 w1.heap.size 1 (ds.length + 1) [.int .u8 45] rfl hown3 ⟨g, 0, none⟩ ds.length ds.length (ds.map (Value.int .u8)) rfl (by simp) HS (ints_one ds) (by omega) ?_)
  intro w4 hown4 hgrow4
  obtain ⟨hl1, hl2, hl3⟩ := signed_left hg1 hw1 HB.out HC.out hgrow2 hgrow3 hgrow4 hown4
  have HL : Hid (Below w.heap.size w w4) := hl3
  have HZ1 : Hid (Calls Try.prog 14 #[.slice (some ⟨w1.heap.size, 0, none⟩) (1 + ds.length) (ds.length + 1)] w4 fun e w' => e = .returned (.int .i64 (-1)) ∧ w' = w4) := by
    have h := znumber_row w1.heap.size 0 (1 + ds.length) (ds.length + 1) (45 :: ds) w4 (by simp; omega) (by omega) (fun j hj => by rw [Nat.zero_add]; exact hl2 j hj) ?_
    · rwa [num_bad (45 :: ds) 0 (by simp) (by show Plain.isDig 45 = false; decide)] at h
    · intro j
      match j with
      | 0 => exact ⟨by show (0 : Int) ≤ 45; decide, by show (45 : Int) ≤ 255; decide⟩
      | j + 1 => exact dig_bytes ds HA.out.1 j
  have HZ2 : Hid (Calls Try.prog 14 #[.slice (some ⟨g, 0, none⟩) ds.length ds.length] w4 fun e w' => e = .returned (.int .i64 (Plain.num ds)) ∧ w' = w4) :=
    znumber_row g 0 ds.length ds.length ds w4 rfl (by omega) (fun j hj => by rw [Nat.zero_add]; exact hl1 j hj) (dig_bytes ds HA.out.1)
  have HN : (Plain.num ds == wrap64 (-n)) = true := by rw [num_text ds (-n) HA.out.1 HA.out.2]; simp
  clear hl1 hl2 hl3 hown4 hgrow4 hown3 hgrow3 hown2 hgrow2 HS HA HB HC
  go_wp2_with fail
  refine HZ1.out.mono ?_
  rintro e w5 ⟨rfl, rfl⟩
  go_wp2_with fail
  refine HZ2.out.mono ?_
  rintro e w6 ⟨rfl, rfl⟩
  go_wp2_with fail
  go_ret
  exact ⟨rfl, HL.out⟩

theorem walk (a0 : Int) (w0 : (Lit.int .i64 a0).wf = true) (w : World) :
    Calls Try.prog 4 #[.int .i64 a0] w fun e w' => e = .returned (.bool true) ∧ Below w.heap.size w w' := by
  have b : -9223372036854775808 ≤ a0 ∧ a0 ≤ 9223372036854775807 := by
    simp only [Lit.wf, Bool.and_eq_true, decide_eq_true_eq] at w0; exact w0
  by_cases h : 0 ≤ a0
  · exact reads_nonneg a0 h b.2 w
  · exact reads_neg a0 (by omega) b.1 w

/-! ### THE ROW's STEP: WRITTEN OUT: LEAVE IT -/
set_option maxRecDepth 100000 in
theorem lifted (os : Os) (started : os.Started) (H : Type) (enc : TypeId × Value → H) :
    ReturnsInHanded {} Try.checked os 4 .any (Rows.fnNumberReadsDecimalTextSpec.pre6 enc Try.prog Try.f4 Rows.fnNumberReadsDecimalTextRow.domain false) (Rows.fnNumberReadsDecimalTextSpec.post enc Try.prog Try.f4 false true false false) := by
  refine returnsInHanded_of_change (C := Try.checked) own started (by kernel_rfl) Try.func4
    (ChangeSpec.witness6 (enc := enc) (C := Try.checked) false ⟨#[], #[.int .i64 0], []⟩ 8 (by kernel_rfl) (by kernel_rfl) (by kernel_rfl) (by kernel_rfl)) ?_
  intro W base args ds gs before hval0 hW hcnd _
  have hval : ∀ (j : Nat) t v, Try.f4.params[j]? = some t → args[j]? = some v → Value.okWide Try.prog W .any base t v := hval0
  have hW' := hW
  obtain ⟨p, q, hA0, hV, rfl, hfz, hnd⟩ := hW
  have hA : DataW.TrodAll enc Try.prog W 0 (fun _ => true) true Try.f4.params.toList args.toList ds p := hA0
  rw [Try.params4] at hA hval
  obtain ⟨v0, vs0, d0, ds0, p0, q0, hargs, rfl, rfl, h0, r0⟩ := trodAll_cons hA
  obtain ⟨rfl, rfl, rfl⟩ := trodAll_nil r0
  obtain rfl : args = #[v0] := by cases args; simp_all
  obtain ⟨rfl, rfl⟩ := trodVars_none hV
  obtain ⟨a0, rfl, rfl, rfl, w0⟩ := open_int Try.underlying2 (hval 0 2 v0 rfl rfl) h0
  clear hA0 hval0
  simp only [List.append_nil] at hW'
  refine (walk a0 w0 W).mono fun e W' ⟨he, bel⟩ => ?_
  subst he
  exact ⟨_, rfl, _, _, _, [], [], [], hW', trodAll_mk1 (shut_bool Try.underlying4 _), (trodAll_cons_mk (shut_int Try.underlying2 w0) trodAll_mk0), rfl, bel.frame _, fun h => by cases h⟩

theorem over : Rows.fnNumberReadsDecimalTextRow.holds Try.pinned (OpenSpec.ofChange Rows.fnNumberReadsDecimalTextSpec) :=
  OpenClaim.holds_of_wide 4 Try.f4 rfl rfl rfl rfl rfl rfl rfl ⟨rfl, rfl, rfl, rfl, rfl⟩ rfl rfl rfl rfl rfl (by kernel_rfl) Try.func4 (by kernel_rfl)
    (of_decide_eq_true (by kernel_rfl)) (by unfold Func.isWrapper; first | (rw [if_pos (by decide +kernel)]; kernel_rfl) | (rw [if_neg (by decide +kernel)]; exact ⟨rfl, rfl⟩))
    (fun os started H enc _ => lifted os started H enc)

/-- ████ THE STATEMENT ████ -/
theorem proved : Rows.FnNumberReadsDecimalTextSaid :=
  over
end Go.Proofs.Qxb6602703a.fnNumberReadsDecimalText
