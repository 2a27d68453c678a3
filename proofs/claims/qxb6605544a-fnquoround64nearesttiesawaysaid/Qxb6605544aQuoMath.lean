/-
  SEAT b6605544a: THE PLAIN LAWS OF THE ROUNDED QUOTIENT AND OF THE WIDE PRODUCT: no Go in sight.
-/
import Derived.WalkKit
import Derived.Laws.BitsAllLaws
namespace Go.Proofs.Qxb6605544a.Math
open Go.RowKit

/-! ### Division toward zero -/
theorem tdiv_abs (x y : Int) : (x.tdiv y).natAbs = x.natAbs / y.natAbs := Int.natAbs_tdiv x y
theorem tmod_abs (x y : Int) : (x.tmod y).natAbs = x.natAbs % y.natAbs := Int.natAbs_tmod x y
theorem tdiv_pp {x y : Int} (hx : 0 ≤ x) (hy : 0 ≤ y) : 0 ≤ x.tdiv y := Int.tdiv_nonneg hx hy
theorem tdiv_nn {x y : Int} (hx : x ≤ 0) (hy : y ≤ 0) : 0 ≤ x.tdiv y := by
  have h := tdiv_pp (x := -x) (y := -y) (by omega) (by omega)
  rw [Int.neg_tdiv, Int.tdiv_neg] at h; omega
theorem tdiv_pn {x y : Int} (hx : 0 ≤ x) (hy : y ≤ 0) : x.tdiv y ≤ 0 := by
  have h := tdiv_pp (x := x) (y := -y) (by omega) (by omega)
  rw [Int.tdiv_neg] at h; omega
theorem tdiv_np {x y : Int} (hx : x ≤ 0) (hy : 0 ≤ y) : x.tdiv y ≤ 0 := by
  have h := tdiv_pp (x := -x) (y := y) (by omega) (by omega)
  rw [Int.neg_tdiv] at h; omega
/-- A quotient by two or more halves at least. -/
theorem div_half {A B : Nat} (hA : A ≤ 9223372036854775808) (hB : 2 ≤ B) : A / B ≤ 4611686018427387904 := by
  have h1 : A / B ≤ A / 2 := Nat.div_le_div_left hB (by omega)
  omega
/-- But for the least number over -1 the quotient fits. -/
theorem tdiv_fits {x y : Int} (h0 : -9223372036854775808 ≤ x) (h1 : x ≤ 9223372036854775807) (hy : y ≠ 0) (hs : -9223372036854775808 < x ∨ y ≠ -1) :
    -9223372036854775808 ≤ x.tdiv y ∧ x.tdiv y ≤ 9223372036854775807 := by
  by_cases hB : 2 ≤ y.natAbs
  · have h := div_half (A := x.natAbs) (by omega) hB
    rw [← tdiv_abs] at h
    omega
  · have : y = 1 ∨ y = -1 := by omega
    rcases this with rfl | rfl
    · rw [Int.tdiv_one]; exact ⟨h0, h1⟩
    · have e : x.tdiv (-1) = -x := by rw [Int.tdiv_neg, Int.tdiv_one]
      rw [e]; omega

/-- The magnitude of the rounded quotient. -/
def roundMag (A B : Nat) : Nat := if B ≤ 2 * (A % B) then A / B + 1 else A / B
theorem roundMag_up {A B : Nat} (h : B ≤ 2 * (A % B)) : roundMag A B = A / B + 1 := if_pos h
theorem roundMag_down {A B : Nat} (h : 2 * (A % B) < B) : roundMag A B = A / B := if_neg (by omega)
theorem up_two {A B : Nat} (hB : 0 < B) (h : B ≤ 2 * (A % B)) : 2 ≤ B := by
  have := Nat.mod_lt A hB; omega
/-- The law's two ways: the product lies below or at A, the gap under half of B; or above, the gap at most half of B. -/
theorem near {A B : Nat} (hB : 0 < B) :
    (roundMag A B * B ≤ A ∧ 2 * (A - roundMag A B * B) < B) ∨ (A < roundMag A B * B ∧ 2 * (roundMag A B * B - A) ≤ B) := by
  have hd := Nat.div_add_mod A B
  have hl := Nat.mod_lt A hB
  rw [Nat.mul_comm] at hd
  by_cases h : B ≤ 2 * (A % B)
  · right
    rw [roundMag_up h, Nat.add_mul, Nat.one_mul]
    omega
  · left
    rw [roundMag_down (by omega)]
    omega

/-! ### The wide product by halves -/
theorem and32 {x : Int} (h0 : 0 ≤ x) (h1 : x ≤ 18446744073709551615) : bits .and .u64 x 4294967295 = x % 4294967296 := by
  rw [u64_and x 4294967295 h0 (by omega) (by omega) (by omega)]
  have e : x.toNat &&& (4294967295 : Int).toNat = x.toNat % 4294967296 := Nat.and_two_pow_sub_one_eq_mod x.toNat 32
  rw [e]; omega
theorem prod_bounds {x y : Int} (h0 : 0 ≤ x) (h1 : x ≤ 4294967295) (h2 : 0 ≤ y) (h3 : y ≤ 4294967295) : 0 ≤ x * y ∧ x * y ≤ 18446744065119617025 := by
  refine ⟨Int.mul_nonneg h0 h2, ?_⟩
  have := Int.mul_le_mul h1 h3 h2 (by omega)
  omega
theorem split_mul (x y : Int) : x * y = (x / 4294967296 * (y / 4294967296)) * 18446744073709551616 + (x / 4294967296 * (y % 4294967296) + x % 4294967296 * (y / 4294967296)) * 4294967296 + x % 4294967296 * (y % 4294967296) := by
  have hx : x = x / 4294967296 * 4294967296 + x % 4294967296 := by omega
  have hy : y = y / 4294967296 * 4294967296 + y % 4294967296 := by omega
  generalize x / 4294967296 = a at *
  generalize x % 4294967296 = b at *
  generalize y / 4294967296 = c at *
  generalize y % 4294967296 = d at *
  subst hx hy
  rw [Int.add_mul, Int.mul_add, Int.mul_add]
  rw [show a * 4294967296 * (c * 4294967296) = a * c * 18446744073709551616 by rw [Int.mul_assoc, Int.mul_left_comm 4294967296 c, ← Int.mul_assoc]; rfl]
  rw [show a * 4294967296 * d = a * d * 4294967296 by rw [Int.mul_assoc, Int.mul_comm 4294967296 d, ← Int.mul_assoc]]
  rw [show b * (c * 4294967296) = b * c * 4294967296 by rw [Int.mul_assoc]]
  rw [Int.add_mul]
  omega
/-- The high word of a product that fits in one word is 0: in the walk's own spelling. -/
theorem hi_zero {x y : Int} (h0 : 0 ≤ x) (h1 : x ≤ 18446744073709551615) (h2 : 0 ≤ y) (h3 : y ≤ 18446744073709551615) (hp : x * y ≤ 18446744073709551615) :
    IntKind.u64.wrap (IntKind.u64.wrap (IntKind.u64.wrap (x / 4294967296 * (y / 4294967296)) + IntKind.u64.wrap (IntKind.u64.wrap (x / 4294967296 * bits BinOp.and IntKind.u64 y 4294967295) + IntKind.u64.wrap (bits BinOp.and IntKind.u64 x 4294967295 * bits BinOp.and IntKind.u64 y 4294967295) / 4294967296) / 4294967296) + IntKind.u64.wrap (bits BinOp.and IntKind.u64 (IntKind.u64.wrap (IntKind.u64.wrap (x / 4294967296 * bits BinOp.and IntKind.u64 y 4294967295) + IntKind.u64.wrap (bits BinOp.and IntKind.u64 x 4294967295 * bits BinOp.and IntKind.u64 y 4294967295) / 4294967296)) 4294967295 + IntKind.u64.wrap (bits BinOp.and IntKind.u64 x 4294967295 * (y / 4294967296))) / 4294967296) = 0 := by
  rw [and32 h0 h1, and32 h2 h3]
  have hs := split_mul x y
  have ba := prod_bounds (x := x / 4294967296) (y := y / 4294967296) (by omega) (by omega) (by omega) (by omega)
  have bb := prod_bounds (x := x / 4294967296) (y := y % 4294967296) (by omega) (by omega) (by omega) (by omega)
  have bc := prod_bounds (x := x % 4294967296) (y := y / 4294967296) (by omega) (by omega) (by omega) (by omega)
  have bd := prod_bounds (x := x % 4294967296) (y := y % 4294967296) (by omega) (by omega) (by omega) (by omega)
  rw [hs] at hp
  clear hs h0 h1 h2 h3
  generalize x / 4294967296 * (y / 4294967296) = a at *
  generalize x / 4294967296 * (y % 4294967296) = b at *
  generalize x % 4294967296 * (y / 4294967296) = c at *
  generalize x % 4294967296 * (y % 4294967296) = d at *
  rw [IntWalk.u64_in a (by omega), IntWalk.u64_in b (by omega), IntWalk.u64_in c (by omega), IntWalk.u64_in d (by omega)]
  rw [IntWalk.u64_in (b + d / 4294967296) (by omega), and32 (by omega) (by omega)]
  rw [IntWalk.u64_in (a + (b + d / 4294967296) / 4294967296) (by omega), IntWalk.u64_in ((b + d / 4294967296) % 4294967296 + c) (by omega)]
  rw [IntWalk.u64_in _ (by omega)]
  omega
end Go.Proofs.Qxb6605544a.Math
