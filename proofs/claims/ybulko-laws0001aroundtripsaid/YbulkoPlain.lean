/-
  THE PLAIN LAW, no Go in sight: what 'Lib.uvarint' writes, with any tail behind it, 'Lib.uvarintDec' reads back whole, and says how many bytes it took.
-/
import Derived.Lib.Varint
import Derived.Lib.VarintDec
namespace Go.Proofs.Ybulko.lawS0001ARoundTrip
open Go

theorem byte_small {x : Nat} (h : x < 256) : (x.toUInt8).toNat = x := by
  simp [Nat.toUInt8, UInt8.toNat_ofNat']; omega

theorem from_uvarint : ∀ (k i : Nat), i + k = 9 → ∀ (acc x : Nat) (t : List UInt8), x < 2 ^ (64 - 7 * i) →
    Lib.uvarintFrom i acc (Lib.uvarint x ++ t) = (acc + x * 2 ^ (7 * i), (i : Int) + ((Lib.uvarint x).length : Nat))
  | 0, i, hi, acc, x, t, hx => by
    obtain rfl : i = 9 := by omega
    have hx2 : x < 2 := by simpa using hx
    rw [Lib.uvarint_small (by omega)]
    have hb : (x.toUInt8).toNat = x := byte_small (by omega)
    simp only [List.cons_append, List.nil_append, Lib.uvarintFrom, hb]
    rw [if_neg (by omega), if_pos (by omega), if_neg (by omega)]
    simp
  | k + 1, i, hi, acc, x, t, hx => by
    by_cases h : x < 128
    · rw [Lib.uvarint_small h]
      have hb : (x.toUInt8).toNat = x := byte_small (by omega)
      simp only [List.cons_append, List.nil_append, Lib.uvarintFrom, hb]
      rw [if_neg (by omega), if_pos h, if_neg (by omega)]
      simp
    · rw [Lib.uvarint_big (by omega)]
      have hb : ((x % 128 + 128).toUInt8).toNat = x % 128 + 128 := byte_small (by omega)
      simp only [List.cons_append, Lib.uvarintFrom, hb]
      rw [if_neg (by omega), if_neg (by omega)]
      have e : 64 - 7 * i = (64 - 7 * (i + 1)) + 7 := by omega
      rw [e, Nat.pow_add] at hx
      have hx' : x / 128 < 2 ^ (64 - 7 * (i + 1)) := by
        have : (2 : Nat) ^ 7 = 128 := by decide
        rw [this] at hx
        exact Nat.div_lt_of_lt_mul (by rw [Nat.mul_comm]; exact hx)
      rw [from_uvarint k (i + 1) (by omega) _ _ t hx']
      have e2 : (2 : Nat) ^ (7 * (i + 1)) = 128 * 2 ^ (7 * i) := by
        rw [show 7 * (i + 1) = 7 + 7 * i by omega, Nat.pow_add]
      have e3 : (x % 128 + 128) % 128 = x % 128 := by omega
      rw [e2, e3]
      have e4 : x / 128 * (128 * 2 ^ (7 * i)) = (x / 128 * 128) * 2 ^ (7 * i) := by rw [Nat.mul_assoc]
      rw [e4, Nat.add_assoc, ← Nat.add_mul]
      have e5 : x % 128 + x / 128 * 128 = x := by omega
      rw [e5]
      simp only [List.length_cons, Prod.mk.injEq, true_and]
      omega

theorem dec_uvarint (x : Nat) (t : List UInt8) (hx : x < 18446744073709551616) :
    Lib.uvarintDec (Lib.uvarint x ++ t) = (x, ((Lib.uvarint x).length : Int)) := by
  have h := from_uvarint 9 0 rfl 0 x t (by simpa using hx)
  rw [Lib.uvarintDec, h]
  simp

end Go.Proofs.Ybulko.lawS0001ARoundTrip
