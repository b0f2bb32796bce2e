/-
  'number' AND 'ZZnumber', BY A CONTRACT: over a row of bytes they answer Plain.num; over an empty slice 0.
-/
import Derived.Test.Qxb6602703aProg
import Derived.WalkKit
import Derived.Test.Qxb6602703aDigits
namespace Go.Proofs.Qxb6602703a
open Go.RowKit

theorem ret_num {k : IntKind} {a b : Int} (h : a = b) : Ending.returned (.int k a) = .returned (.int k b) := by rw [h]
theorem take_snoc (zs : List Int) (k : Nat) (h : k < zs.length) : zs.take (k + 1) = zs.take k ++ [zs.getD k 0] := by
  rw [List.take_succ_eq_append_getElem h]; simp [h]
theorem num_bad (zs : List Int) (k : Nat) (h : k < zs.length) (hb : Plain.isDig (zs.getD k 0) = false) : Plain.num zs = -1 := by
  unfold Plain.num
  have e : zs[k]?.getD 0 = zs[k] := by simp [h]
  have : zs.all Plain.isDig = false := by
    rw [List.all_eq_false]
    exact ⟨zs[k], List.getElem_mem h, by simpa [h] using hb⟩
  rw [this]; rfl
theorem num_good (zs : List Int) (h : zs.all Plain.isDig = true) : Plain.num zs = wrap64 (Plain.hor zs) := by
  unfold Plain.num; rw [if_pos h]

set_option maxHeartbeats 400000 in
/-- number over an empty slice, wherever it points. -/
theorem number_empty (a : Option Addr) (cap : Nat) (w : World) :
    Calls Try.prog 22 #[.slice a 0 cap] w fun e w' => e = .returned (.int .i64 0) ∧ w' = w := by
  go_enter Try.func22, Try.ntmps22
  go_wp2
  refine wp_loop_rounds 1 ?_
  rw [rounds_succ]
  go_wp2
  go_ret
  exact ⟨rfl, rfl⟩

set_option maxHeartbeats 400000 in
/-- number over a row of bytes. -/
theorem number_row (b off cap : Nat) (zs : List Int) (w : World) (hm : zs.length ≤ 4611686018427387904)
    (hcell : ∀ j, j < zs.length → w.cell? ⟨b, off + j, none⟩ = some (.int .u8 (zs.getD j 0))) (hb : ∀ j, 0 ≤ zs.getD j 0 ∧ zs.getD j 0 ≤ 255) :
    Calls Try.prog 22 #[.slice (some ⟨b, off, none⟩) zs.length cap] w fun e w' => e = .returned (.int .i64 (Plain.num zs)) ∧ w' = w := by
  have HC : Hid (∀ j, j < zs.length → w.cell? ⟨b, off + j, none⟩ = some (.int .u8 (zs.getD j 0))) := hcell
  have HB : Hid (∀ j, 0 ≤ zs.getD j 0 ∧ zs.getD j 0 ≤ 255) := hb
  clear hcell hb
  obtain ⟨len, hlen⟩ : ∃ len, zs.length = len := ⟨_, rfl⟩
  have HL : Hid (zs.length = len) := hlen
  rw [hlen] at hm ⊢
  clear hlen
  go_enter Try.func22, Try.ntmps22
  go_wp2
  go_loop [3, 8] (fun n i => ∃ (k : Nat) (N : Int), k ≤ len ∧ i = .int .i64 k ∧ n = .int .i64 N ∧ Hid (N = wrap64 (Plain.hor (zs.take k))) ∧ Hid ((zs.take k).all Plain.isDig = true)) (fun _ i => len - (intOf i).toNat)
  case atStart => exact ⟨0, 0, Nat.zero_le _, rfl, rfl, by show (0 : Int) = _; simp [Plain.hor, wrap64], by show _ = _; simp⟩
  case round =>
    obtain ⟨k, N, hk, rfl, rfl, HN, HA⟩ := hrel
    by_cases hlt : k < len
    · obtain ⟨c, hc⟩ : ∃ c, c = zs.getD k 0 := ⟨_, rfl⟩
      have hcell : w.cell? ⟨b, off + k, none⟩ = some (.int .u8 c) := by rw [hc]; exact HC.out k (by rw [HL.out]; exact hlt)
      obtain ⟨hb0, hb1⟩ : 0 ≤ c ∧ c ≤ 255 := by rw [hc]; exact HB.out k
      have HCC : Hid (c = zs.getD k 0) := hc
      clear hc
      by_cases h48 : c < 48
      · go_wp2
        go_ret
        exact ⟨ret_num (num_bad zs k (by rw [HL.out]; exact hlt) (by rw [← HCC.out]; exact decide_eq_false (by omega))).symm, rfl⟩
      · by_cases h57 : 57 < c
        · go_wp2
          go_ret
          exact ⟨ret_num (num_bad zs k (by rw [HL.out]; exact hlt) (by rw [← HCC.out]; exact decide_eq_false (by omega))).symm, rfl⟩
        · go_wp2
          go_round
          case rel =>
            have ht := take_snoc zs k (by rw [HL.out]; exact hlt)
            rw [← HCC.out] at ht
            exact ⟨k + 1, _, by omega, by go_num, rfl, by show _ = _; rw [ht, HN.out, Plain.hor_round], by show _ = _; rw [ht, List.all_append, HA.out]; simp [Plain.isDig]; omega⟩
          case measure => simp [intOf]; omega
    · go_wp2
      go_ret
      have ht : zs.take k = zs := List.take_of_length_le (by rw [HL.out]; omega)
      exact ⟨ret_num (by rw [HN.out, num_good zs (by have := HA.out; rwa [ht] at this), ht]), rfl⟩

/-- ZZnumber hands number on: an empty slice. -/
theorem znumber_empty (a : Option Addr) (cap : Nat) (w : World) :
    Calls Try.prog 14 #[.slice a 0 cap] w fun e w' => e = .returned (.int .i64 0) ∧ w' = w := by
  go_enter Try.func14, Try.ntmps14
  go_wp2_with (go_at_call 22; refine (number_empty _ _ _).mono ?_; rintro e w' ⟨rfl, rfl⟩)
  go_ret
  exact ⟨rfl, rfl⟩
/-- .. a row of bytes. -/
theorem znumber_row (b off len cap : Nat) (zs : List Int) (w : World) (hz : zs.length = len) (hm : len ≤ 4611686018427387904)
    (hcell : ∀ j, j < len → w.cell? ⟨b, off + j, none⟩ = some (.int .u8 (zs.getD j 0))) (hb : ∀ j, 0 ≤ zs.getD j 0 ∧ zs.getD j 0 ≤ 255) :
    Calls Try.prog 14 #[.slice (some ⟨b, off, none⟩) len cap] w fun e w' => e = .returned (.int .i64 (Plain.num zs)) ∧ w' = w := by
  subst hz
  have H := number_row b off cap zs w hm hcell hb
  have HH : Hid (Calls Try.prog 22 #[.slice (some ⟨b, off, none⟩) zs.length cap] w fun e w' => e = .returned (.int .i64 (Plain.num zs)) ∧ w' = w) := H
  clear H hcell hb hm
  go_enter Try.func14, Try.ntmps14
  go_wp2_with (go_at_call 22; refine (HH.out).mono ?_; rintro e w' ⟨rfl, rfl⟩)
  go_ret
  exact ⟨rfl, rfl⟩
end Go.Proofs.Qxb6602703a
