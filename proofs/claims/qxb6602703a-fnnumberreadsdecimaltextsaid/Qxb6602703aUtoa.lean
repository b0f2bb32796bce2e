/-
  'zzUtoa', BY A CONTRACT: it writes the digits of u into new memory.
-/
import Derived.Test.Qxb6602703aNum
namespace Go.Proofs.Qxb6602703a
open Go.RowKit

theorem Try.info5 : (Try.prog.info? 5).map (fun i => (i.zero, i.size, i.bytes)) = some (some (.int .u8 0), 1, 1) := by kernel_rfl

/-- The digits behind a store one place further to the left. -/
theorem buf_step (xs : List Value) (ds : List Int) (d : Int) (j : Nat) (hl : xs.length = 20) (hj : j < 20)
    (h : ∀ s, s < ds.length → xs[j + 1 + s]? = some (.int .u8 (ds.getD s 0))) :
    ∀ s, s < (d :: ds).length → (xs.set j (.int .u8 d))[j + s]? = some (.int .u8 ((d :: ds).getD s 0)) := by
  intro s hs
  match s with
  | 0 => simp [hl, hj]
  | s + 1 =>
    rw [List.getElem?_set_ne (by omega), show j + (s + 1) = j + 1 + s by omega, h s (by simpa using hs)]
    simp
/-- The copied part behind a store at its end. -/
theorem out_step (ys : List Value) (ds : List Int) (t : Nat) (hl : t < ys.length) (h : ∀ s, s < t → ys[s]? = some (.int .u8 (ds.getD s 0))) :
    ∀ s, s < t + 1 → (ys.set t (.int .u8 (ds.getD t 0)))[s]? = some (.int .u8 (ds.getD s 0)) := by
  intro s hs
  by_cases e : s = t
  · subst e; rw [List.getElem?_set_self hl]
  · rw [List.getElem?_set_ne (by omega)]; exact h s (by omega)

/-- What holds at the head of zzUtoa's first loop: j places are free to the left of the next one; U is left; ds is written. -/
def UtoaRel (u : Int) (w : World) (j : Nat) (U : Int) (ds : List Int) (xs : List Value) (wr : World) : Prop :=
  ds.length = 19 - j ∧ ds.all Plain.isDig = true ∧ U * 10 ^ ds.length + Plain.hor ds = u ∧
  wr.ownsRow w.heap.size 36 1 (.slice (some ⟨w.heap.size, 0, none⟩) 20 20) 20 xs ∧ (∀ s, s < ds.length → xs[j + 1 + s]? = some (.int .u8 (ds.getD s 0))) ∧ Below w.heap.size w wr

theorem utoa_start (u : Int) (w : World) (c : Array Value) (hc : c.size = 20) : UtoaRel u w 19 u [] c.toList (w.alloc (.cells c 36)) := by
  refine ⟨rfl, rfl, by simp [Plain.hor], ⟨by simp [hc], .inr ⟨w.heap.size, 20, c, rfl, Nat.le_refl _, heap_alloc_new w _, Nat.le_refl _, by unfold maxLen; omega, by simp [hc], ?_⟩⟩, fun s hs => by simp at hs, (Below.refl _ _).alloc (Nat.le_refl _) _⟩
  rw [List.take_of_length_le (by simp [hc])]

theorem utoa_next {u : Int} {w : World} {j : Nat} {U : Int} {ds : List Int} {xs : List Value} {wr : World} (h : UtoaRel u w (j + 1) U ds xs wr) (hj : j + 1 < 20) :
    UtoaRel u w j (U / 10) ((48 + U % 10) :: ds) (xs.set (j + 1) (.int .u8 (48 + U % 10))) (wr.setCell ⟨w.heap.size, j + 1, none⟩ (.int .u8 (48 + U % 10))) := by
  obtain ⟨h1, h2, h3, h4, h5, h6⟩ := h
  refine ⟨by simp [h1]; omega, by rw [List.all_cons, h2, Plain.dig_is]; rfl, Plain.dig_step U u ds h3, (h4.stored _ _).1, ?_, h6.setCell (Nat.le_refl _) _⟩
  have hl : xs.length = 20 := by simpa using h4.1
  have := buf_step xs ds (48 + U % 10) (j + 1) hl hj h5
  exact this

/-- What holds at the head of zzUtoa's second loop: t bytes are copied out of the array into the new row in block G. -/
def CopyRel (w : World) (G j : Nat) (ds : List Int) (xs : List Value) (t : Nat) (ys : List Value) (wr : World) : Prop :=
  wr.ownsRow w.heap.size 36 1 (.slice (some ⟨w.heap.size, 0, none⟩) 20 20) 20 xs ∧ (∀ s, s < ds.length → xs[j + s]? = some (.int .u8 (ds.getD s 0))) ∧
  wr.ownsRow w.heap.size 5 1 (.slice (some ⟨G, 0, none⟩) ds.length ds.length) ds.length ys ∧ (∀ s, s < t → ys[s]? = some (.int .u8 (ds.getD s 0))) ∧ Below w.heap.size w wr ∧ w.heap.size < G

theorem utoa_lt {u : Int} {w : World} {j : Nat} {U : Int} {ds : List Int} {xs : List Value} {wr : World} (h : UtoaRel u w j U ds xs wr) : w.heap.size < wr.heap.size :=
  (h.2.2.2.1.lt w.heap.size rfl).2

/-- Behind the last digit and the make. -/
theorem copy_start {u : Int} {w : World} {j : Nat} {U : Int} {ds : List Int} {xs ys : List Value} {wr w1 : World} (h : UtoaRel u w j U ds xs wr) (hj : j ≤ 19) {G n : Nat} (hG : G = wr.heap.size) (hn : n = 20 - j)
    (hown : w1.ownsRow w.heap.size 5 1 (.slice (some ⟨G, 0, none⟩) n n) n ys) (hgrow : (wr.setCell ⟨w.heap.size, j, none⟩ (.int .u8 (48 + U % 10))).grownBy w1 none) :
    CopyRel w G j ((48 + U % 10) :: ds) (xs.set j (.int .u8 (48 + U % 10))) 0 ys w1 := by
  have hlt := utoa_lt h
  obtain ⟨h1, h2, h3, h4, h5, h6⟩ := h
  have hl : xs.length = 20 := by simpa using h4.1
  have hlen : ((48 + U % 10) :: ds).length = n := by simp [h1]; omega
  refine ⟨(h4.stored j _).1.kept hgrow (.inr (by simp [Value.ownBlock])), buf_step xs ds _ j hl (by omega) h5, by rw [hlen]; exact hown, fun s hs => absurd hs (Nat.not_lt_zero _), ?_, by omega⟩
  exact (h6.setCell (Nat.le_refl _) _).grown hgrow (by have := h6.size; simp; omega) (fun k hk => by cases hk)

theorem copy_next {w : World} {G j : Nat} {ds : List Int} {xs ys : List Value} {t : Nat} {wr : World} (h : CopyRel w G j ds xs t ys wr) (ht : t < ds.length) :
    CopyRel w G j ds xs (t + 1) (ys.set t (.int .u8 (ds.getD t 0))) (wr.setCell ⟨G, t, none⟩ (.int .u8 (ds.getD t 0))) := by
  obtain ⟨h1, h2, h3, h4, h5, h6⟩ := h
  have hl : ys.length = ds.length := by simpa using h3.1
  exact ⟨ownsRow_setCell_other h1 (by simp [Value.ownBlock]; omega) _, h2, (h3.stored t _).1, out_step ys ds t (by omega) h4, h5.setCell (by show w.heap.size ≤ G; omega) _, h6⟩

set_option maxHeartbeats 1000000 in
theorem utoa_any (u : Int) (h0 : 0 ≤ u) (h1 : u ≤ 18446744073709551615) (w : World) :
    Calls Try.prog 15 #[.int .u64 u] w fun e w' => ∃ (g : Nat) (ds : List Int), e = .returned (.slice (some ⟨g, 0, none⟩) ds.length ds.length) ∧ 1 ≤ ds.length ∧ ds.length ≤ 20 ∧
      ds.all Plain.isDig = true ∧ Plain.hor ds = u ∧ w.heap.size ≤ g ∧ g < w'.heap.size ∧ (∀ j, j < ds.length → w'.cell? ⟨g, j, none⟩ = some (.int .u8 (ds.getD j 0))) ∧ Below w.heap.size w w' := by
  obtain ⟨i0, hi, hz0, hz1, hz2⟩ := info_parts Try.info5
  have HI : Hid (Try.prog.info? 5 = some i0 ∧ i0.zero = some (.int .u8 0) ∧ i0.size = 1 ∧ i0.bytes = 1) := ⟨hi, hz0, hz1, hz2⟩
  clear hi hz0 hz1 hz2
  go_enter Try.func15, Try.ntmps15
  go_wp2
  go_loopw [0, 4] (fun u' i wr => ∃ (j : Nat) (U : Int) (ds : List Int) (xs : List Value), j ≤ 19 ∧ u' = .int .u64 U ∧ 0 ≤ U ∧ U ≤ 18446744073709551615 ∧ i = .int .i64 ((j : Int) + 1) ∧ Hid (UtoaRel u w j U ds xs wr))
    (fun _ i _ => (intOf i).toNat)
  case atStart => exact ⟨19, u, [], _, by omega, rfl, h0, h1, rfl, utoa_start u w _ rfl⟩
  case round =>
    rename World => wo
    obtain ⟨j, U, ds, xs, hj, rfl, hU0, hU1, rfl, HR⟩ := hrel
    have hfz : wo.frozen? ⟨w.heap.size, j, none⟩ = false := HR.out.2.2.2.1.frozenAt j
    obtain ⟨v0, hv0⟩ : ∃ v0, wo.cell? ⟨w.heap.size, j, none⟩ = some v0 := by
      have hl : xs.length = 20 := by simpa using HR.out.2.2.2.1.1
      exact ⟨xs[j], by rw [HR.out.2.2.2.1.cellAt j (by omega)]; simp⟩
    have hsz : w.heap.size < wo.heap.size := utoa_lt HR.out
    by_cases hq : U / 10 = 0
    · have hqe : (U / 10 == 0) = true := by rw [beq_iff_eq]; exact hq
      have HQ : Hid (U / 10 = 0) := hq
      clear hq
      go_wp2_with (at_make; refine wpList_make_full _ rfl _ _ 22 rfl w.heap.size 5 i0 (.int .u8 0) 1 Try.underlying22 HI.out.1 HI.out.2.1 HI.out.2.2.1 _ _ _ _ (20 - j) rfl rfl (by omega) (by omega) (by rw [HI.out.2.2.2]; omega) (by unfold maxLen; omega) (by simp; omega) ?_)
      intro w1 hown hgrow
      have HC : Hid (CopyRel w wo.heap.size j ((48 + U % 10) :: ds) (xs.set j (.int .u8 (48 + U % 10))) 0 _ w1) := copy_start HR.out hj rfl rfl hown hgrow
      have HD : Hid (((48 + U % 10) :: ds).length = 20 - j ∧ ((48 + U % 10) :: ds).all Plain.isDig = true ∧ Plain.hor ((48 + U % 10) :: ds) = u) :=
        ⟨by have := HR.out.1; simp; omega, by rw [List.all_cons, HR.out.2.1, Plain.dig_is]; rfl, Plain.dig_done U u ds HQ.out HR.out.2.2.1⟩
      clear hown hgrow hfz hv0 HR HQ
      obtain ⟨es, hes⟩ : ∃ es, (48 + U % 10) :: ds = es := ⟨_, rfl⟩
      rw [hes] at HC HD
      clear hes
      have hwG : w.heap.size < wo.heap.size := hsz
      go_wp2_with fail
      go_loopw [6] (fun tv wr => ∃ (t : Nat) (ys : List Value), t ≤ 20 - j ∧ tv = .int .i64 t ∧ Hid (CopyRel w wo.heap.size j es (xs.set j (.int .u8 (48 + U % 10))) t ys wr))
        (fun tv _ => 20 - j - (intOf tv).toNat)
      case atStart => exact ⟨0, _, Nat.zero_le _, rfl, HC⟩
      case round =>
        clear HC
        obtain ⟨t, ys, ht, rfl, HC⟩ := hrel
        by_cases hlt : t < 20 - j
        · have htd : t < es.length := by rw [HD.out.1]; exact hlt
          obtain ⟨c, hc⟩ : ∃ c, c = es.getD t 0 := ⟨_, rfl⟩
          have hld : wr.cell? ⟨w.heap.size, j + t, none⟩ = some (.int .u8 c) := by rw [HC.out.1.cellAt (j + t) (by omega), hc]; exact HC.out.2.1 t htd
          have hfz : wr.frozen? ⟨wo.heap.size, t, none⟩ = false := HC.out.2.2.1.frozenAt t
          obtain ⟨v0, hv0⟩ : ∃ v0, wr.cell? ⟨wo.heap.size, t, none⟩ = some v0 := by
            have hl : ys.length = es.length := by simpa using HC.out.2.2.1.1
            exact ⟨ys[t], by rw [HC.out.2.2.1.cellAt t (by omega)]; simp⟩
          have HN : Hid (CopyRel w wo.heap.size j es (xs.set j (.int .u8 (48 + U % 10))) (t + 1) (ys.set t (.int .u8 c)) (wr.setCell ⟨wo.heap.size, t, none⟩ (.int .u8 c))) := by rw [hc]; exact copy_next HC.out htd
          clear hc HC
          go_wp2
          go_roundw
          case rel => exact ⟨t + 1, _, by omega, by go_num, HN⟩
          case measure => simp [intOf]; omega
        · have et : t = 20 - j := by omega
          have HT : Hid (t = es.length) := by rw [HD.out.1]; exact et
          clear et
          go_wp2
          go_ret
          refine ⟨wo.heap.size, es, by rw [HD.out.1]; rfl, by rw [HD.out.1]; omega, by rw [HD.out.1]; omega, HD.out.2.1, HD.out.2.2, Nat.le_of_lt hwG, (HC.out.2.2.1.lt wo.heap.size rfl).2, ?_, HC.out.2.2.2.2.1⟩
          intro s hs
          rw [HC.out.2.2.1.cellAt s (by omega)]
          exact HC.out.2.2.2.1 s (by rw [HT.out]; exact hs)
    · have hqe : (U / 10 == 0) = false := by rw [beq_eq_false_iff_ne]; exact hq
      have hroom := Plain.dig_room (U / 10) u ((48 + U % 10) :: ds) (by omega) h1 (by rw [List.all_cons, HR.out.2.1, Plain.dig_is]; rfl) (Plain.dig_step U u ds HR.out.2.2.1)
      obtain ⟨i, rfl⟩ : ∃ i, j = i + 1 := ⟨j - 1, by have := HR.out.1; simp at hroom; omega⟩
      have HN := utoa_next HR.out (by omega)
      have HNN : Hid (UtoaRel u w i (U / 10) ((48 + U % 10) :: ds) (xs.set (i + 1) (.int .u8 (48 + U % 10))) (wo.setCell ⟨w.heap.size, i + 1, none⟩ (.int .u8 (48 + U % 10)))) := HN
      clear HN HR hq hroom
      go_wp2
      go_roundw
      case rel => exact ⟨i, _, _, _, by omega, rfl, by omega, by omega, by go_num, HNN⟩
      case measure => simp [intOf]; omega
end Go.Proofs.Qxb6602703a
