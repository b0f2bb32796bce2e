/-
  'FnNumberMatchesPositionalSum', WALKED: over a nil slice, over one that is too long, over any other.
-/
import Derived.Test.Qxb6602703aNum
import Derived.WalkSpells
import Derived.Laws.CopyOwn
namespace Go.Proofs.Qxb6602703a
open Go.RowKit

theorem Try.inf5 : (Try.prog.info? 5).map (fun i => (i.zero, i.size, i.bytes)) = some (some (.int .u8 0), 1, 1) := by kernel_rfl
theorem Try.one5 : (Try.prog.info? 5).map (·.size) = some 1 := by kernel_rfl

/-- The bound on lengths lets a short slice by. -/
theorem bytes_ok (a : Option Addr) (len cap : Nat) (h : len ≤ 1048576) (w : World) :
    Calls Try.prog 12 #[.slice a len cap] w fun e w' => e = .returned (.bool true) ∧ w = w' := by
  go_enter Try.func12, Try.ntmps12
  go_wp2
  go_ret
  exact ⟨rfl, rfl⟩
/-- .. and no long one. -/
theorem bytes_no (a : Option Addr) (len cap : Nat) (h : 1048576 < len) (w : World) :
    Calls Try.prog 12 #[.slice a len cap] w fun e w' => e = .returned (.bool false) ∧ w' = w := by
  go_enter Try.func12, Try.ntmps12
  go_wp2
  go_ret
  exact ⟨rfl, rfl⟩
/-- zzIsDigit. -/
theorem isDigit_any (c : Int) (w : World) :
    Calls Try.prog 13 #[.int .u8 c] w fun e w' => e = .returned (.bool (Plain.isDig c)) ∧ w' = w := by
  by_cases h1 : 48 ≤ c
  · by_cases h2 : c ≤ 57
    · have HD : Plain.isDig c = true := decide_eq_true ⟨h1, h2⟩
      rw [HD]; clear HD
      go_enter Try.func13, Try.ntmps13
      go_wp2
      go_ret
      exact ⟨rfl, rfl⟩
    · have HD : Plain.isDig c = false := decide_eq_false (by omega)
      rw [HD]; clear HD
      go_enter Try.func13, Try.ntmps13
      go_wp2
      go_ret
      exact ⟨rfl, rfl⟩
  · have HD : Plain.isDig c = false := decide_eq_false (by omega)
    rw [HD]; clear HD
    have h : decide (48 ≤ c) = false := decide_eq_false h1
    go_enter Try.func13, Try.ntmps13
    go_wp2
    go_ret
    exact ⟨rfl, rfl⟩

set_option maxHeartbeats 400000 in
/-- A slice that is too long: true at once. -/
theorem sum_long (a : Option Addr) (len cap : Nat) (h : 65536 < len) (w : World) :
    Calls Try.prog 3 #[.slice a len cap] w fun e w' => e = .returned (.bool true) ∧ w' = w := by
  by_cases hb : len ≤ 1048576
  · go_enter Try.func3, Try.ntmps3
    go_wp2_with (go_at_call 12; refine (bytes_ok _ _ _ hb _).mono ?_; rintro e w' ⟨rfl, rfl⟩)
    go_ret
    exact ⟨rfl, rfl⟩
  · have hb' : 1048576 < len := by omega
    go_enter Try.func3, Try.ntmps3
    go_wp2_with (go_at_call 12; refine (bytes_no _ _ _ hb' _).mono ?_; rintro e w' ⟨rfl, rfl⟩)
    go_ret
    exact ⟨rfl, rfl⟩

set_option maxHeartbeats 400000 in
/-- The nil slice. -/
theorem sum_nil (w : World) :
    Calls Try.prog 3 #[.slice none 0 0] w fun e w' => e = .returned (.bool true) ∧ w' = w := by
  have q22 : ∀ (w : World) (a : Option Addr) (n c n' c' : Nat), (binOp .neq 22 (.slice a n c) (.slice none n' c')).run Try.prog w = .ok (.bool (!a.isNone)) w := fun w a n c n' c' => run_neq_slice_nil_any w _ _ a n c n' c' Try.underlying22
  go_enter Try.func3, Try.ntmps3
  go_wp2_with (go_at_call 12; refine (bytes_ok _ _ _ (by omega) _).mono ?_; rintro e w' ⟨rfl, rfl⟩)
  refine wp_loop_rounds 1 ?_
  rw [rounds_succ]
  go_wp2
  refine wp_loop_rounds 1 ?_
  rw [rounds_succ]
  go_wp2_with (go_at_call 14; refine (znumber_empty _ _ _).mono ?_; rintro e w' ⟨rfl, rfl⟩)
  go_ret
  exact ⟨rfl, rfl⟩

/-- The row behind make and copy: the bytes themselves. -/
theorem copied_row {w2 : World} {G : Nat} {cur : List Value} {zs : List Int} (hl : cur.length = zs.length)
    (h : w2.heap[G]? = some (.cells (splice cur 0 (zs.map (Value.int .u8))).toArray 5 (0, 0))) :
    ∀ j, j < zs.length → w2.cell? ⟨G, j, none⟩ = some (.int .u8 (zs.getD j 0)) := by
  intro j hj
  rw [cell_of_row w2 G j _ 5 (0, 0) h]
  have e : splice cur 0 (zs.map (Value.int .u8)) = zs.map (Value.int .u8) := by
    unfold splice
    rw [List.take_zero, List.nil_append, List.drop_eq_nil_of_le (by simp [hl]), List.append_nil]
  rw [e]
  simp [hj]
theorem made_row {w1 : World} {B G n : Nat} {ys : List Value} (h : w1.ownsRow B 5 1 (.slice (some ⟨G, 0, none⟩) n n) n ys) :
    ∃ cur : List Value, cur.length = n ∧ w1.heap[G]? = some (.cells cur.toArray 5 (0, 0)) := by
  rcases h.2 with ⟨h', _⟩ | ⟨g', cap', cur, h', _, hg, _, _, hs, _⟩
  · simp at h'
  · simp only [Value.slice.injEq, Option.some.injEq, Addr.mk.injEq, and_true, true_and] at h'
    obtain ⟨rfl, rfl⟩ := h'
    exact ⟨cur.toList, by simpa using hs, by simpa using hg⟩
theorem copy_src {w w1 : World} {x : Addr} {zs : List Int} (hg : w.grownBy w1 none) (hc : ∀ j, j < zs.length → w.cell? (x.add j) = some (.int .u8 (zs.getD j 0))) :
    ∀ j v, (zs.map (Value.int .u8))[j]? = some v → w1.cell? (x.add j) = some v := by
  intro j u hu
  have hj : j < zs.length := by
    rcases Nat.lt_or_ge j zs.length with h | h
    · exact h
    · rw [List.getElem?_eq_none (by simpa using h)] at hu; cases hu
  have e : u = .int .u8 (zs.getD j 0) := by
    rw [List.getElem?_map, List.getElem?_eq_getElem hj] at hu
    simp at hu
    simp [hu, hj]
  rw [e]
  exact hg.cell (hc j hj) (by simp)
theorem bytes_one (ds : List Int) : ∀ u ∈ ds.map (Value.int .u8), u.oneCell' = true := by
  intro u hu
  obtain ⟨d, _, rfl⟩ := List.mem_map.1 hu
  rfl
theorem wrap_nil : (0 : Int) = wrap64 (Plain.hor []) := by simp [Plain.hor, wrap64]
theorem wrap_pow0 : (1 : Int) = wrap64 (10 ^ ([] : List Int).length) := by simp [wrap64]
theorem drop_cons (zs : List Int) (k : Nat) (h : k < zs.length) : zs.drop k = zs.getD k 0 :: zs.drop (k + 1) := by
  rw [List.drop_eq_getElem_cons h]; simp [h]
theorem all_dig (zs : List Int) (k : Nat) (h : k < zs.length) (ha : zs.all Plain.isDig = true) : 48 ≤ zs.getD k 0 ∧ zs.getD k 0 ≤ 57 := by
  have := of_decide_eq_true (List.all_eq_true.1 ha zs[k] (List.getElem_mem h))
  simpa [h] using this
theorem num_none (zs : List Int) (h : zs.all Plain.isDig = false) : Plain.num zs = -1 := by
  unfold Plain.num; rw [h]; rfl

set_option maxHeartbeats 1000000 in
/-- A slice that is not nil, of no more than 65536 bytes. -/
theorem sum_some (x : Addr) (cap : Nat) (zs : List Int) (w : World) (hm : zs.length ≤ 65536)
    (hcell : ∀ j, j < zs.length → w.cell? (x.add j) = some (.int .u8 (zs.getD j 0))) (hb : ∀ j, 0 ≤ zs.getD j 0 ∧ zs.getD j 0 ≤ 255) :
    Calls Try.prog 3 #[.slice (some x) zs.length cap] w fun e w' => e = .returned (.bool true) ∧ Below w.heap.size w w' := by
  obtain ⟨i0, hi, hz0, hz1, hz2⟩ := info_parts Try.inf5
  have HI : Hid (Try.prog.info? 5 = some i0 ∧ i0.zero = some (.int .u8 0) ∧ i0.size = 1 ∧ i0.bytes = 1) := ⟨hi, hz0, hz1, hz2⟩
  clear hi hz0 hz1 hz2
  have HX : Hid (∀ j, j < zs.length → w.cell? (x.add j) = some (.int .u8 (zs.getD j 0))) := hcell
  have HB : Hid (∀ j, 0 ≤ zs.getD j 0 ∧ zs.getD j 0 ≤ 255) := hb
  clear hcell hb
  obtain ⟨len, hlen⟩ : ∃ len, zs.length = len := ⟨_, rfl⟩
  have HL : Hid (zs.length = len) := hlen
  rw [hlen] at hm ⊢
  clear hlen
  obtain ⟨cs, hcs⟩ : ∃ cs, cs = zs.map (Value.int .u8) := ⟨_, rfl⟩
  have HCS : Hid (cs = zs.map (Value.int .u8)) := hcs
  clear hcs
  have q22 : ∀ (w : World) (a : Option Addr) (n c n' c' : Nat), (binOp .neq 22 (.slice a n c) (.slice none n' c')).run Try.prog w = .ok (.bool (!a.isNone)) w := fun w a n c n' c' => run_neq_slice_nil_any w _ _ a n c n' c' Try.underlying22
  go_enter Try.func3, Try.ntmps3
  go_wp2_with (first | (go_at_call 12; refine (bytes_ok _ _ _ (by omega) _).mono ?_; rintro e w' ⟨rfl, rfl⟩) | (at_make; refine wpList_make_full _ rfl _ _ 22 rfl w.heap.size 5 i0 (.int .u8 0) 1 Try.underlying22 HI.out.1 HI.out.2.1 HI.out.2.2.1 _ _ _ _ len rfl rfl (by omega) (by omega) (by rw [HI.out.2.2.2]; omega) (by unfold maxLen; omega) (Nat.le_refl _) ?_))
  intro w1 hown hgrow
  obtain ⟨cur, hcur, hrow⟩ := made_row hown
  have hb1 : Below w.heap.size w w1 := (Below.refl _ _).grown hgrow (Nat.le_refl _) (fun k hk => by cases hk)
  have hcl : cs.length = len := by rw [HCS.out, List.length_map, HL.out]
  have hsrc : ∀ j v, cs[j]? = some v → w1.cell? (x.add j) = some v := by rw [HCS.out]; exact copy_src hgrow HX.out
  have h1c : ∀ u ∈ cs, u.oneCell' = true := by rw [HCS.out]; exact bytes_one zs
  have HH : Hid (cur.length = len ∧ w1.heap[w.heap.size]? = some (.cells cur.toArray 5 (0, 0)) ∧ Below w.heap.size w w1 ∧ cs.length = len ∧ (∀ j v, cs[j]? = some v → w1.cell? (x.add j) = some v) ∧ ∀ u ∈ cs, u.oneCell' = true) := ⟨hcur, hrow, hb1, hcl, hsrc, h1c⟩
  clear hown hgrow hcur hrow hb1 hcl hsrc h1c
  go_wp2_with (refine wpList_copy_splice rfl (.tmp 20) (.tmp 21) 22 22 rfl 5 Try.underlying22 Try.one5 _ _ _ _ _ _ rfl rfl w.heap.size 0 cur 5 HH.out.2.1 cs (by rw [HH.out.2.2.2.1]; exact (Nat.min_self len).symm) (fun _ => ⟨rfl, x, rfl, HH.out.2.2.2.2.1⟩) (by rw [HH.out.2.2.2.1, HH.out.1]; omega) HH.out.2.2.2.2.2 w.heap.size w HH.out.2.2.1 (Nat.le_refl _) ?_)
  intro w2 HG2 hB2
  have HW : Hid (Below w.heap.size w w2) := hB2
  have HC : Hid (∀ j, j < len → w2.cell? ⟨w.heap.size, j, none⟩ = some (.int .u8 (zs.getD j 0))) := by
    have h := HG2.out
    rw [HCS.out] at h
    have := copied_row (by rw [HH.out.1, HL.out]) h
    rw [HL.out] at this
    exact this
  have HZ : Hid (Calls Try.prog 14 #[.slice (some ⟨w.heap.size, 0, none⟩) len len] w2 fun e w' => e = .returned (.int .i64 (Plain.num zs)) ∧ w' = w2) :=
    znumber_row w.heap.size 0 len len zs w2 HL.out (by omega) (fun j hj => by rw [Nat.zero_add]; exact HC.out j hj) HB.out
  clear HG2 hB2 HH HX HCS q22 HI
  go_wp2_with fail
  go_loop [4, 5] (fun bd i => ∃ (k : Nat) (b : Bool), k ≤ len ∧ i = .int .i64 k ∧ bd = .bool b ∧ Hid (b = !(zs.take k).all Plain.isDig)) (fun _ i => len - (intOf i).toNat)
  case atStart => exact ⟨0, false, Nat.zero_le _, rfl, rfl, by show _ = _; simp⟩
  case round =>
    obtain ⟨k, b, hk, rfl, rfl, HK⟩ := hrel
    by_cases hlt : k < len
    · obtain ⟨c, hc⟩ : ∃ c, c = zs.getD k 0 := ⟨_, rfl⟩
      have hcell : w2.cell? ⟨w.heap.size, k, none⟩ = some (.int .u8 c) := by rw [hc]; exact HC.out k hlt
      have ht := take_snoc zs k (by rw [HL.out]; exact hlt)
      rw [← hc] at ht
      have HT : Hid (zs.take (k + 1) = zs.take k ++ [c]) := ht
      clear hc ht
      by_cases hd : Plain.isDig c = true
      · go_wp2_with (go_at_call 13; refine (isDigit_any _ _).mono ?_; rintro e w' ⟨rfl, rfl⟩)
        go_round
        case rel => exact ⟨k + 1, b, by omega, by go_num, rfl, by show _ = _; rw [HT.out, HK.out]; simp [hd]⟩
        case measure => simp [intOf]; omega
      · have hd' : Plain.isDig c = false := by simpa using hd
        clear hd
        go_wp2_with (go_at_call 13; refine (isDigit_any _ _).mono ?_; rintro e w' ⟨rfl, rfl⟩)
        go_round
        case rel => exact ⟨k + 1, true, by omega, by go_num, rfl, by show _ = _; rw [HT.out]; simp [hd']⟩
        case measure => simp [intOf]; omega
    · have ht : zs.take k = zs := List.take_of_length_le (by rw [HL.out]; omega)
      have HA : Hid (b = !zs.all Plain.isDig) := by have := HK.out; rwa [ht] at this
      clear HK ht
      cases b with
      | true =>
        have hn : (Plain.num zs == -1) = true := by rw [num_none zs (by have := HA.out; simpa using this.symm)]; rfl
        go_wp2_with fail
        refine HZ.out.mono ?_
        rintro e w3 ⟨rfl, rfl⟩
        go_wp2_with fail
        go_ret
        exact ⟨rfl, HW.out⟩
      | false =>
        have HAL : Hid (zs.all Plain.isDig = true) := by have := HA.out; exact (show _ = _ by simpa using this)
        clear HA
        go_wp2_with fail
        go_loop [6, 7, 8] (fun wt pw i => ∃ (n : Nat) (q W P : Int), n ≤ len ∧ -1 ≤ q ∧ q < len ∧ i = .int .i64 q ∧ wt = .int .i64 W ∧ pw = .int .i64 P ∧ Hid (q = (n : Int) - 1) ∧ Hid (W = wrap64 (Plain.hor (zs.drop n))) ∧ Hid (P = wrap64 (10 ^ (zs.drop n).length)))
          (fun _ _ i => (intOf i + 1).toNat)
        case atStart =>
          have ht : zs.drop len = [] := List.drop_eq_nil_of_le (by rw [HL.out]; exact Nat.le_refl _)
          exact ⟨len, _, 0, 1, Nat.le_refl _, by omega, by omega, rfl, rfl, rfl, rfl, by show (0 : Int) = _; rw [ht]; exact wrap_nil, by show (1 : Int) = _; rw [ht]; exact wrap_pow0⟩
        case round =>
          obtain ⟨n, q, W, P, hn, hq0, hq1, rfl, rfl, rfl, HQ, HWW, HP⟩ := hrel
          by_cases hq : 0 ≤ q
          · obtain ⟨m, rfl⟩ : ∃ m : Nat, q = m := ⟨q.toNat, by omega⟩
            have HM : Hid (n = m + 1) := by have := HQ.out; exact (show _ = _ by omega)
            have hml : m < len := by omega
            obtain ⟨c, hc⟩ : ∃ c, c = zs.getD m 0 := ⟨_, rfl⟩
            have hcell : w2.cell? ⟨w.heap.size, m, none⟩ = some (.int .u8 c) := by rw [hc]; exact HC.out m hml
            obtain ⟨hc0, hc1⟩ : 48 ≤ c ∧ c ≤ 57 := by rw [hc]; exact all_dig zs m (by rw [HL.out]; exact hml) HAL.out
            have hdr := drop_cons zs m (by rw [HL.out]; exact hml)
            rw [← hc, ← HM.out] at hdr
            have HR : Hid (wrap64 (W + wrap64 ((c - 48) * P)) = wrap64 (Plain.hor (zs.drop m)) ∧ wrap64 (P * 10) = wrap64 (10 ^ (zs.drop m).length)) := by
              rw [HWW.out, HP.out, hdr]
              exact (show _ ∧ _ from ⟨Plain.pos_round c (zs.drop n), Plain.pow_round _⟩)
            clear hc hdr HQ HWW HP
            go_wp2_with fail
            go_round
            case rel => exact ⟨m, _, _, _, by omega, by omega, by omega, rfl, rfl, rfl, rfl, HR.out.1, HR.out.2⟩
            case measure => simp [intOf]
          · have HN0 : Hid (n = 0) := by have := HQ.out; exact (show _ = _ by omega)
            have hw : (Plain.num zs == W) = true := by
              have h := HWW.out
              rw [HN0.out, List.drop_zero] at h
              rw [num_good zs HAL.out, h, beq_iff_eq]
            clear HWW HP HQ
            go_wp2_with fail
            refine HZ.out.mono ?_
            rintro e w3 ⟨rfl, rfl⟩
            go_wp2_with fail
            go_ret
            exact ⟨rfl, HW.out⟩
end Go.Proofs.Qxb6602703a
