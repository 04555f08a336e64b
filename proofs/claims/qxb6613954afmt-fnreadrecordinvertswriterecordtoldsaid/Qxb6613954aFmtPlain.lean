/-
  The plain laws: what the varint and big-endian bytes give back.
-/
import Derived.Lib.EndianMore
import Derived.Lib.VarintDec
import Derived.Lib.Varint
import Derived.Lib.Zigzag
namespace Go.Proofs.Qxb6613954aFmt
open Go.RowKit

theorem toNat_u8 (x : Nat) (h : x < 256) : (x.toUInt8).toNat = x := by
  simp [Nat.mod_eq_of_lt h]
theorem uvarintFrom_back (k : Nat) : ∀ (i acc x : Nat) (rest : List UInt8), i + k = 9 → x * 2 ^ (7 * i) < 18446744073709551616 →
    Lib.uvarintFrom i acc (Lib.uvarint x ++ rest) = (acc + x * 2 ^ (7 * i), (i : Int) + (Lib.uvarint x).length) := by
  induction k with
  | zero =>
    intro i acc x rest hi hx
    have hi : i = 9 := by omega
    subst hi
    have hx1 : x ≤ 1 := by
      have : x * 9223372036854775808 < 18446744073709551616 := by simpa using hx
      omega
    rw [Lib.uvarint_small (by omega)]
    have h1 := toNat_u8 x (by omega)
    simp only [List.cons_append, List.nil_append, Lib.uvarintFrom, h1]
    rw [if_neg (by omega), if_pos (by omega), if_neg (by omega)]
    simp
  | succ k ih =>
    intro i acc x rest hi hx
    by_cases h : x < 128
    · rw [Lib.uvarint_small h]
      have h1 := toNat_u8 x (by omega)
      simp only [List.cons_append, List.nil_append, Lib.uvarintFrom, h1]
      rw [if_neg (by omega), if_pos h, if_neg (by omega)]
      simp
    · rw [Lib.uvarint_big (by omega)]
      have h1 := toNat_u8 (x % 128 + 128) (by omega)
      simp only [List.cons_append, Lib.uvarintFrom, h1]
      rw [if_neg (by omega), if_neg (by omega), ih (i + 1) _ (x / 128) rest (by omega) ?_]
      · have e1 : (x % 128 + 128) % 128 = x % 128 := by omega
        have e2 : 2 ^ (7 * (i + 1)) = 128 * 2 ^ (7 * i) := by rw [Nat.mul_add, Nat.pow_add, Nat.mul_comm]
        rw [e1, e2]
        have e3 : x = x % 128 + x / 128 * 128 := by omega
        refine Prod.ext ?_ ?_
        · show acc + x % 128 * 2 ^ (7 * i) + x / 128 * (128 * 2 ^ (7 * i)) = acc + x * 2 ^ (7 * i)
          rw [Nat.add_assoc, ← Nat.mul_assoc, ← Nat.add_mul, ← e3]
        · simp; omega
      · have e2 : 2 ^ (7 * (i + 1)) = 128 * 2 ^ (7 * i) := by rw [Nat.mul_add, Nat.pow_add, Nat.mul_comm]
        rw [e2, ← Nat.mul_assoc]
        exact Nat.lt_of_le_of_lt (Nat.mul_le_mul_right _ (Nat.div_mul_le_self x 128)) hx
theorem uvarint_back (x : Nat) (hx : x < 18446744073709551616) (rest : List UInt8) : Lib.uvarintDec (Lib.uvarint x ++ rest) = (x, ((Lib.uvarint x).length : Int)) := by
  have := uvarintFrom_back 9 0 0 x rest (by omega) (by simpa using hx)
  simpa [Lib.uvarintDec] using this
theorem unzigzag_zigzag (x : Int) : Lib.unzigzag (Lib.zigzag x) = x := by
  unfold Lib.zigzag Lib.unzigzag
  split
  · rw [if_pos (by omega)]; omega
  · rw [if_neg (by omega)]; omega
theorem varint_back (x : Int) (h0 : -9223372036854775808 ≤ x) (h1 : x ≤ 9223372036854775807) (rest : List UInt8) : Lib.varintDec (Lib.uvarint (Lib.zigzag x) ++ rest) = (x, ((Lib.uvarint (Lib.zigzag x)).length : Int)) := by
  simp only [Lib.varintDec, uvarint_back _ (Lib.zigzag_lt h0 h1) rest, unzigzag_zigzag]
theorem take_append (l r : List UInt8) (n : Nat) (h : l.length ≤ n) : (l ++ r).take n = l ++ r.take (n - l.length) := by
  rw [List.take_append, List.take_of_length_le h]
theorem uvarint_pos (x : Nat) : 0 < (Lib.uvarint x).length := by
  rw [Lib.uvarint]; split <;> simp
end Go.Proofs.Qxb6613954aFmt
