/-
  THE PLAIN LAWS OF SEAT b6605544a: no Go in sight. 'wrap64' is the library's own (Derived/RowKit.lean).
-/
import Derived.WalkKit
namespace Go.Proofs.Qxb6605544a.Math
open Go.RowKit

theorem wrap64_shift (x k : Int) : wrap64 (x + k * 18446744073709551616) = wrap64 x := by unfold wrap64; omega
theorem wrap64_is (x : Int) : ∃ k : Int, wrap64 x = x + k * 18446744073709551616 := by
  refine ⟨-((x + 9223372036854775808) / 18446744073709551616), ?_⟩
  unfold wrap64; omega
theorem wrap64_low (x : Int) : -9223372036854775808 ≤ wrap64 x := by unfold wrap64; omega
theorem wrap64_high (x : Int) : wrap64 x ≤ 9223372036854775807 := by unfold wrap64; omega
theorem wrap64_id {x : Int} (h0 : -9223372036854775808 ≤ x) (h1 : x ≤ 9223372036854775807) : wrap64 x = x := by unfold wrap64; omega
theorem wrap64_add_left (x y : Int) : wrap64 (wrap64 x + y) = wrap64 (x + y) := by unfold wrap64; omega
theorem wrap64_add_right (x y : Int) : wrap64 (x + wrap64 y) = wrap64 (x + y) := by unfold wrap64; omega
theorem wrap64_mul_right (x y : Int) : wrap64 (x * wrap64 y) = wrap64 (x * y) := by
  obtain ⟨k, hk⟩ := wrap64_is y
  rw [hk, Int.mul_add, ← Int.mul_assoc, wrap64_shift]
theorem wrap64_mul_left (x y : Int) : wrap64 (wrap64 x * y) = wrap64 (x * y) := by
  rw [Int.mul_comm, wrap64_mul_right, Int.mul_comm]

/-! ### appendDigits and the positional sum -/
/-- What one byte adds: int64(c - '0'), the difference taken in a byte. -/
def dig (c : UInt8) : Int := ((c.toNat : Int) - 48) % 256
theorem dig_low (c : UInt8) : 0 ≤ dig c := by unfold dig; omega
theorem dig_high (c : UInt8) : dig c ≤ 255 := by unfold dig; omega
/-- appendDigits, a byte at a time. -/
def adL (a : Int) : List UInt8 → Int
  | [] => a
  | c :: l => adL (wrap64 (wrap64 (a * 10) + dig c)) l
theorem adL_snoc (a : Int) (l : List UInt8) (c : UInt8) : adL a (l ++ [c]) = wrap64 (wrap64 (adL a l * 10) + dig c) := by
  induction l generalizing a with
  | nil => rfl
  | cons d l ih => exact ih _
/-- The running power of ten behind a text. -/
def powL : List UInt8 → Int
  | [] => 1
  | _ :: l => wrap64 (powL l * 10)
/-- The sum of the law, taken from the right. -/
def sumL : List UInt8 → Int
  | [] => 0
  | c :: l => wrap64 (sumL l + wrap64 (dig c * powL l))
theorem adL_sum (l : List UInt8) (a : Int) (h0 : -9223372036854775808 ≤ a) (h1 : a ≤ 9223372036854775807) :
    adL a l = wrap64 (wrap64 (a * powL l) + sumL l) := by
  induction l generalizing a with
  | nil => simp only [adL, powL, sumL, Int.mul_one, Int.add_zero, wrap64_id h0 h1]
  | cons c l ih =>
    simp only [adL, powL, sumL]
    rw [ih _ (wrap64_low _) (wrap64_high _)]
    simp only [wrap64_add_left, wrap64_add_right, wrap64_mul_left, wrap64_mul_right]
    rw [Int.add_mul, Int.mul_assoc a 10, Int.mul_comm 10 (powL l)]
    congr 1
    omega
end Go.Proofs.Qxb6605544a.Math
