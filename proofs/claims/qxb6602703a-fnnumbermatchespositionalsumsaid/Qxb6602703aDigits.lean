/-
  THE PLAIN LAWS OF DIGITS: Horner's rule, the positional sum, int64's wrap. No Go in sight.
-/
import Derived.IntWalk
namespace Go.Proofs.Qxb6602703a.Plain
open Go.RowKit

/-- The number that the bytes spell, by Horner's rule, with no bound. -/
def hor (l : List Int) : Int := l.foldl (fun n c => n * 10 + (c - 48)) 0
/-- Is the byte a decimal digit? -/
def isDig (c : Int) : Bool := decide (48 ≤ c ∧ c ≤ 57)
/-- What 'number' answers. -/
def num (l : List Int) : Int := if l.all isDig then wrap64 (hor l) else -1

theorem hor_nil : hor [] = 0 := rfl
theorem hor_snoc (l : List Int) (c : Int) : hor (l ++ [c]) = hor l * 10 + (c - 48) := by simp [hor]
theorem hor_from (l : List Int) (a : Int) : l.foldl (fun n c => n * 10 + (c - 48)) a = a * 10 ^ l.length + hor l := by
  induction l generalizing a with
  | nil => simp [hor]
  | cons c l ih =>
    have h1 : hor (c :: l) = (0 * 10 + (c - 48)) * 10 ^ l.length + hor l := ih (0 * 10 + (c - 48))
    rw [List.foldl_cons, ih, h1, List.length_cons, Int.pow_succ]
    rw [Int.zero_mul, Int.zero_add, Int.add_mul, Int.mul_assoc, Int.mul_comm 10, Int.add_assoc]
theorem hor_cons (c : Int) (l : List Int) : hor (c :: l) = (c - 48) * 10 ^ l.length + hor l := by
  have h1 : hor (c :: l) = (0 * 10 + (c - 48)) * 10 ^ l.length + hor l := hor_from l (0 * 10 + (c - 48))
  rw [h1]; simp

theorem wrap64_shift (a k : Int) : wrap64 (a + k * 18446744073709551616) = wrap64 a := by
  unfold wrap64; omega
theorem wrap64_form (a : Int) : ∃ k : Int, wrap64 a = a + k * 18446744073709551616 := by
  refine ⟨- ((a + 9223372036854775808) / 18446744073709551616), ?_⟩
  unfold wrap64; omega
theorem wrap64_mul_right (a b : Int) : wrap64 (a * wrap64 b) = wrap64 (a * b) := by
  obtain ⟨k, hk⟩ := wrap64_form b
  rw [hk, Int.mul_add, ← Int.mul_assoc, wrap64_shift]
theorem wrap64_add_right (a b : Int) : wrap64 (a + wrap64 b) = wrap64 (a + b) := by
  obtain ⟨k, hk⟩ := wrap64_form b
  rw [hk, ← Int.add_assoc, wrap64_shift]
theorem wrap64_add_left (a b : Int) : wrap64 (wrap64 a + b) = wrap64 (a + b) := by
  rw [Int.add_comm, wrap64_add_right, Int.add_comm]
theorem wrap64_mul_left (a b : Int) : wrap64 (wrap64 a * b) = wrap64 (a * b) := by
  rw [Int.mul_comm, wrap64_mul_right, Int.mul_comm]

/-- One round of 'number': n = n*10 + digit. -/
theorem hor_round (l : List Int) (c : Int) : wrap64 (wrap64 (wrap64 (hor l) * 10) + (c - 48)) = wrap64 (hor (l ++ [c])) := by
  rw [hor_snoc, wrap64_add_left]
  obtain ⟨k, hk⟩ := wrap64_form (hor l)
  rw [hk, show (hor l + k * 18446744073709551616) * 10 + (c - 48) = (hor l * 10 + (c - 48)) + (k * 10) * 18446744073709551616 by omega, wrap64_shift]
/-- One round of the positional sum, from the right: want += digit * pow. -/
theorem pos_round (c : Int) (l : List Int) : wrap64 (wrap64 (hor l) + wrap64 ((c - 48) * wrap64 (10 ^ l.length))) = wrap64 (hor (c :: l)) := by
  rw [wrap64_add_right, wrap64_add_left, hor_cons]
  obtain ⟨k, hk⟩ := wrap64_form (10 ^ l.length)
  rw [hk, Int.mul_add, ← Int.mul_assoc, ← Int.add_assoc, wrap64_shift, Int.add_comm]
/-- .. and pow *= 10. -/
theorem pow_round (n : Nat) : wrap64 (wrap64 (10 ^ n) * 10) = wrap64 (10 ^ (n + 1)) := by
  rw [wrap64_mul_left, Int.pow_succ]

/-! ### Writing a number out, digit by digit, from the right -/
theorem hor_nonneg (l : List Int) (h : l.all isDig = true) : 0 ≤ hor l := by
  induction l with
  | nil => simp [hor]
  | cons c l ih =>
    rw [List.all_cons, Bool.and_eq_true] at h
    have hc := of_decide_eq_true h.1
    have hp : (0 : Int) ≤ 10 ^ l.length := Int.pow_nonneg (by decide)
    have := Int.mul_nonneg (show (0 : Int) ≤ c - 48 by omega) hp
    have := ih h.2
    rw [hor_cons]; omega
theorem dig_split (U P : Int) : U / 10 * (P * 10) + (48 + U % 10 - 48) * P = U * P := by
  have h : U = 10 * (U / 10) + U % 10 := by omega
  have e : U * P = (10 * (U / 10) + U % 10) * P := by rw [← h]
  rw [e, Int.add_mul, Int.mul_comm P 10, ← Int.mul_assoc, Int.mul_comm (U / 10) 10, show 48 + U % 10 - 48 = U % 10 by omega]
/-- One digit more: the value that is left and the digits that are written still make the number. -/
theorem dig_step (U u : Int) (ds : List Int) (h : U * 10 ^ ds.length + hor ds = u) :
    U / 10 * 10 ^ ((48 + U % 10) :: ds).length + hor ((48 + U % 10) :: ds) = u := by
  rw [hor_cons, List.length_cons, Int.pow_succ, ← Int.add_assoc, dig_split]; exact h
theorem dig_is (U : Int) : isDig (48 + U % 10) = true := decide_eq_true (by omega)
/-- While something is left, fewer than 20 digits are written. -/
theorem dig_room (U u : Int) (ds : List Int) (hU : 1 ≤ U) (hu : u ≤ 18446744073709551615) (hd : ds.all isDig = true) (h : U * 10 ^ ds.length + hor ds = u) : ds.length ≤ 19 := by
  rcases Nat.lt_or_ge ds.length 20 with h' | h'
  · omega
  · exfalso
    have h0 := hor_nonneg ds hd
    have hp : (10 : Int) ^ ds.length = 10 ^ 20 * 10 ^ (ds.length - 20) := by rw [← Int.pow_add]; congr 1; omega
    have hq : (0 : Int) < 10 ^ (ds.length - 20) := Int.pow_pos (by decide)
    have hr : (10 : Int) ^ 20 * 1 ≤ 10 ^ 20 * 10 ^ (ds.length - 20) := Int.mul_le_mul_of_nonneg_left (by omega) (by decide)
    have hs : 1 * (10 : Int) ^ ds.length ≤ U * 10 ^ ds.length := Int.mul_le_mul_of_nonneg_right hU (by rw [hp]; omega)
    have ht : (10 : Int) ^ 20 = 100000000000000000000 := by decide
    omega
/-- Nothing is left: the digits spell the number. -/
theorem dig_done (U u : Int) (ds : List Int) (hU : U / 10 = 0) (h : U * 10 ^ ds.length + hor ds = u) : hor ((48 + U % 10) :: ds) = u := by
  have := dig_step U u ds h
  rw [hU] at this; omega

end Go.Proofs.Qxb6602703a.Plain
