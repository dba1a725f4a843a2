/-
  THE PLAIN PART of 'LawS0002CDigits': the hexadecimal digit of v at position p. No Go in sight.
-/
import Derived.WalkKit
namespace Go.Proofs.Ybulkac.lawS0002CDigits
open Go

/-- The code of the digit n (0 to 15), in upper case. -/
def dig (n : Nat) : Nat := if n < 10 then 48 + n else 55 + n

/-- The code of v's hexadecimal digit at position p. -/
def hexd (v p : Nat) : Nat := dig (v / 16 ^ p % 16)

theorem dig_lo {n : Nat} (h : n < 10) : dig n = 48 + n := by simp [dig, h]
theorem dig_hi {n : Nat} (h : 10 ≤ n) : dig n = 55 + n := by rw [dig, if_neg (by omega)]

theorem hexd_far {v p : Nat} (hv : v < 18446744073709551616) (hp : 16 ≤ p) : hexd v p = 48 := by
  have h16 : (18446744073709551616 : Nat) = 16 ^ 16 := by decide
  have : v / 16 ^ p = 0 := by
    refine Nat.div_eq_of_lt (Nat.lt_of_lt_of_le hv ?_)
    rw [h16]
    exact Nat.pow_le_pow_right (by decide) hp
  simp [hexd, this, dig]

theorem step16 (v k : Nat) : v / 16 ^ k / 16 = v / 16 ^ (k + 1) := by rw [Nat.div_div_eq_div_mul, Nat.pow_succ]

end Go.Proofs.Ybulkac.lawS0002CDigits
