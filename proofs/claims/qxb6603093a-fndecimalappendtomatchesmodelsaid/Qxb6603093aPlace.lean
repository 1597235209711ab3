/-
  The plain law of 'FnDigitsAtMatchesPlaceValues': Horner's value and the sum of place values, both wrapping as int does, are one. No Go in sight.
-/
import Derived.Test.Qxb6603093aDigits
namespace Go.Proofs.Qxb6603093a.Dig
open Go.RowKit

theorem wrap_mod (x : Int) : ∃ q, wrap64 x = x + 18446744073709551616 * q := ⟨-((x + 9223372036854775808) / 18446744073709551616), by unfold wrap64; omega⟩
theorem wrap_add (x q : Int) : wrap64 (x + 18446744073709551616 * q) = wrap64 x := by unfold wrap64; omega
theorem wrap_idem (x : Int) : wrap64 (wrap64 x) = wrap64 x := by unfold wrap64; omega
theorem wrap_left (x y : Int) : wrap64 (wrap64 x + y) = wrap64 (x + y) := by
  obtain ⟨q, e⟩ := wrap_mod x
  rw [e, show x + 18446744073709551616 * q + y = (x + y) + 18446744073709551616 * q from by omega, wrap_add]
theorem wrap_right (x y : Int) : wrap64 (x + wrap64 y) = wrap64 (x + y) := by rw [Int.add_comm, wrap_left, Int.add_comm]
theorem wrap_mul_left (x y : Int) : wrap64 (wrap64 x * y) = wrap64 (x * y) := by
  obtain ⟨q, e⟩ := wrap_mod x
  rw [e, Int.add_mul, Int.mul_assoc, wrap_add]
theorem wrap_mul_right (x y : Int) : wrap64 (x * wrap64 y) = wrap64 (x * y) := by rw [Int.mul_comm, wrap_mul_left, Int.mul_comm]

/-- Horner's value, exact. -/
def hv (b : Nat → Int) : Nat → Int
  | 0 => 0
  | k + 1 => 10 * hv b k + (b k - 48)
theorem dv_hv (b : Nat → Int) (k : Nat) : dv b k = wrap64 (hv b k) := by
  induction k with
  | zero => show (0 : Int) = wrap64 0; unfold wrap64; omega
  | succ m ih =>
    show wrap64 (wrap64 (10 * dv b m) + (b m - 48)) = wrap64 (10 * hv b m + (b m - 48))
    rw [ih, wrap_mul_right, wrap_left]

/-- 10^j, wrapping. -/
def pl : Nat → Int
  | 0 => 1
  | j + 1 => wrap64 (pl j * 10)
theorem pl_pow (j : Nat) : pl j = wrap64 (10 ^ j) := by
  induction j with
  | zero => show (1 : Int) = wrap64 1; unfold wrap64; omega
  | succ m ih =>
    show wrap64 (pl m * 10) = _
    rw [ih, wrap_mul_left, Int.pow_succ]
/-- The sum of the last j of n digits by their place values, wrapping. -/
def wt (b : Nat → Int) (n : Nat) : Nat → Int
  | 0 => 0
  | j + 1 => wrap64 (wt b n j + wrap64 ((b (n - 1 - j) - 48) * pl j))

theorem hv_wt (b : Nat → Int) (n j : Nat) (h : j ≤ n) : wrap64 (hv b (n - j) * 10 ^ j + wt b n j) = wrap64 (hv b n) := by
  induction j with
  | zero => simp [wt]
  | succ m ih =>
    rw [← ih (by omega)]
    show wrap64 (_ + wrap64 (wt b n m + wrap64 ((b (n - 1 - m) - 48) * pl m))) = _
    obtain ⟨r, hr⟩ : ∃ r, n - m = r + 1 := ⟨n - m - 1, by omega⟩
    rw [wrap_right, ← Int.add_assoc, wrap_right, pl_pow, show n - (m + 1) = r from by omega, show n - 1 - m = r from by omega, hr]
    rw [← wrap_right _ ((b r - 48) * wrap64 (10 ^ m)), wrap_mul_right, wrap_right]
    congr 1
    show _ = (10 * hv b r + (b r - 48)) * 10 ^ m + wt b n m
    rw [Int.pow_succ, Int.add_mul, Int.mul_comm 10 (hv b r), Int.mul_assoc, Int.mul_comm (10 ^ m) 10]
    omega
/-- ████ THE PLAIN LAW ████ -/
theorem dv_wt (b : Nat → Int) (n : Nat) : dv b n = wt b n n := by
  have h := hv_wt b n n (Nat.le_refl _)
  rw [dv_hv, ← h, Nat.sub_self]
  show wrap64 (0 * 10 ^ n + wt b n n) = _
  rw [Int.zero_mul, Int.zero_add]
  cases n with
  | zero => show wrap64 0 = 0; unfold wrap64; omega
  | succ m => exact wrap_idem _
end Go.Proofs.Qxb6603093a.Dig
