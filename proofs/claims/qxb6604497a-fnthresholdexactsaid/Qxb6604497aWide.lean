/-
  TWO-WORD ARITHMETIC (seat b6604497a): mul128, div128by100, add128, less128 as plain functions in the walk's own spelling, and what they come to.
-/
import Derived.Test.Qxb6604497aProg
import Derived.WalkKit
import Derived.Laws.BitsAllLaws
import Derived.Laws.Bits64
namespace Go.Proofs.Qxb6604497a
open Go.RowKit

/-! ### masks and joins -/
theorem and32 (x : Int) (h0 : 0 ≤ x) (h1 : x ≤ 18446744073709551615) : bits .and .u64 x 4294967295 = x % 4294967296 := by
  rw [u64_and x 4294967295 h0 (by omega) (by omega) (by omega)]
  have e : (4294967295 : Int).toNat = 2 ^ 32 - 1 := by decide
  rw [e, Nat.and_two_pow_sub_one_eq_mod]
  omega
theorem or_hi (x y : Int) (h0 : 0 ≤ x) (h1 : x ≤ 18446744073709551615) (hx : x % 4294967296 = 0) (h2 : 0 ≤ y) (h3 : y < 4294967296) : bits .or .u64 x y = x + y := by
  rw [u64_or x y h0 (by omega) h2 (by omega), nat_join 32 x.toNat y.toNat (by omega) (by omega)]
  omega
theorem or_lo (x y : Int) (h0 : 0 ≤ y) (h1 : y ≤ 18446744073709551615) (hy : y % 4294967296 = 0) (h2 : 0 ≤ x) (h3 : x < 4294967296) : bits .or .u64 x y = x + y := by
  rw [u64_or x y h2 (by omega) h0 (by omega), Nat.or_comm, nat_join 32 y.toNat x.toNat (by omega) (by omega)]
  omega

/-! ### the product -/
def a0 (x : Int) : Int := bits .and .u64 x 4294967295
def W (x : Int) : Int := IntKind.u64.wrap x
def mid (a b : Int) : Int := W (W (W (a0 a * a0 b) / 4294967296 + a0 (W (a0 a * (b / 4294967296)))) + a0 (W (a / 4294967296 * a0 b)))
def mulHi (a b : Int) : Int := W (W (W (W (a / 4294967296 * (b / 4294967296)) + W (a0 a * (b / 4294967296)) / 4294967296) + W (a / 4294967296 * a0 b) / 4294967296) + mid a b / 4294967296)
def mulLo (a b : Int) : Int := bits .or .u64 (a0 (W (a0 a * a0 b))) (W (mid a b * 4294967296))

theorem W_eq (x : Int) : W x = x % 18446744073709551616 := IntKind.wrap_u64 x
theorem half_prod {x y : Int} (h0 : 0 ≤ x) (h1 : x ≤ 4294967295) (h2 : 0 ≤ y) (h3 : y ≤ 4294967295) : 0 ≤ x * y ∧ x * y ≤ 18446744065119617025 := by
  refine ⟨Int.mul_nonneg h0 h2, ?_⟩
  have := Int.mul_le_mul h1 h3 h2 (by omega)
  omega
theorem prod_split (A1 A0 B1 B0 : Int) : (A1 * 4294967296 + A0) * (B1 * 4294967296 + B0) = A1 * B1 * 18446744073709551616 + (A0 * B1 + A1 * B0) * 4294967296 + A0 * B0 := by
  have e1 : A1 * 4294967296 * (B1 * 4294967296) = A1 * B1 * 18446744073709551616 := by
    rw [Int.mul_assoc, Int.mul_left_comm 4294967296 B1 4294967296, ← Int.mul_assoc]
    rfl
  have e2 : A1 * 4294967296 * B0 = A1 * B0 * 4294967296 := by rw [Int.mul_assoc, Int.mul_comm 4294967296 B0, ← Int.mul_assoc]
  have e3 : A0 * (B1 * 4294967296) = A0 * B1 * 4294967296 := by rw [← Int.mul_assoc]
  rw [Int.add_mul, Int.mul_add, Int.mul_add, e1, e2, e3, Int.add_mul]
  omega

theorem mul_exact (a b : Int) (h0 : 0 ≤ a) (h1 : a ≤ 18446744073709551615) (h2 : 0 ≤ b) (h3 : b ≤ 18446744073709551615) :
    mulHi a b * 18446744073709551616 + mulLo a b = a * b ∧ 0 ≤ mulHi a b ∧ mulHi a b ≤ 18446744073709551615 ∧ 0 ≤ mulLo a b ∧ mulLo a b ≤ 18446744073709551615 := by
  obtain ⟨A1, hA1⟩ : ∃ x, x = a / 4294967296 := ⟨_, rfl⟩
  obtain ⟨A0, hA0⟩ : ∃ x, x = a % 4294967296 := ⟨_, rfl⟩
  obtain ⟨B1, hB1⟩ : ∃ x, x = b / 4294967296 := ⟨_, rfl⟩
  obtain ⟨B0, hB0⟩ : ∃ x, x = b % 4294967296 := ⟨_, rfl⟩
  have ea : a = A1 * 4294967296 + A0 := by omega
  have eb : b = B1 * 4294967296 + B0 := by omega
  have a0a : a0 a = A0 := by rw [hA0]; exact and32 a h0 h1
  have a0b : a0 b = B0 := by rw [hB0]; exact and32 b h2 h3
  have p00 := half_prod (x := A0) (y := B0) (by omega) (by omega) (by omega) (by omega)
  have p01 := half_prod (x := A0) (y := B1) (by omega) (by omega) (by omega) (by omega)
  have p10 := half_prod (x := A1) (y := B0) (by omega) (by omega) (by omega) (by omega)
  have p11 := half_prod (x := A1) (y := B1) (by omega) (by omega) (by omega) (by omega)
  have ep := prod_split A1 A0 B1 B0
  rw [← ea, ← eb] at ep
  have em : mid a b = A0 * B0 / 4294967296 + A0 * B1 % 4294967296 + A1 * B0 % 4294967296 := by
    unfold mid
    rw [a0a, a0b, ← hA1, ← hB1]
    generalize A0 * B0 = P00 at *
    generalize A0 * B1 = P01 at *
    generalize A1 * B0 = P10 at *
    have w00 : W P00 = P00 := by rw [W_eq]; omega
    have w01 : W P01 = P01 := by rw [W_eq]; omega
    have w10 : W P10 = P10 := by rw [W_eq]; omega
    have m01 : a0 P01 = P01 % 4294967296 := and32 P01 (by omega) (by omega)
    have m10 : a0 P10 = P10 % 4294967296 := and32 P10 (by omega) (by omega)
    rw [w00, w01, w10, m01, m10, W_eq, W_eq]
    omega
  have eh : mulHi a b = A1 * B1 + A0 * B1 / 4294967296 + A1 * B0 / 4294967296 + mid a b / 4294967296 := by
    unfold mulHi
    rw [a0a, a0b, ← hA1, ← hB1, em]
    generalize A0 * B0 = P00 at *
    generalize A0 * B1 = P01 at *
    generalize A1 * B0 = P10 at *
    generalize A1 * B1 = P11 at *
    have w01 : W P01 = P01 := by rw [W_eq]; omega
    have w10 : W P10 = P10 := by rw [W_eq]; omega
    have w11 : W P11 = P11 := by rw [W_eq]; omega
    rw [w01, w10, w11, W_eq, W_eq, W_eq]
    omega
  have el : mulLo a b = A0 * B0 % 4294967296 + mid a b % 4294967296 * 4294967296 := by
    unfold mulLo
    rw [a0a, a0b, em]
    generalize A0 * B0 = P00 at *
    generalize A0 * B1 = P01 at *
    generalize A1 * B0 = P10 at *
    have w00 : W P00 = P00 := by rw [W_eq]; omega
    have m00 : a0 P00 = P00 % 4294967296 := and32 P00 (by omega) (by omega)
    generalize hM : P00 / 4294967296 + P01 % 4294967296 + P10 % 4294967296 = M at *
    have wm : W (M * 4294967296) = M % 4294967296 * 4294967296 := by rw [W_eq]; omega
    rw [w00, m00, wm]
    exact or_lo _ _ (by omega) (by omega) (by omega) (by omega) (by omega)
  rw [em] at eh el
  generalize mulHi a b = HI at *
  generalize mulLo a b = LO at *
  generalize A0 * B0 = P00 at *
  generalize A0 * B1 = P01 at *
  generalize A1 * B0 = P10 at *
  generalize A1 * B1 = P11 at *
  generalize a * b = AB at *
  clear em a0a a0b ea eb hA1 hA0 hB1 hB0
  omega

/-! ### the division -/
def dx (hi lo : Int) : Int := bits .or .u64 (hi % 100 * 4294967296) (lo / 4294967296)
def dy (hi lo : Int) : Int := bits .or .u64 (W ((dx hi lo).tmod 100 * 4294967296)) (bits .and .u64 lo 4294967295)
def divOut (hi lo : Int) : Int := W (W (W ((dx hi lo).tdiv 100) * 4294967296) + W ((dy hi lo).tdiv 100))
theorem div_exact (hi lo : Int) (h2 : 0 ≤ lo) (h3 : lo ≤ 18446744073709551615) :
    divOut hi lo = (hi * 18446744073709551616 + lo) / 100 % 18446744073709551616 := by
  have ex : dx hi lo = hi % 100 * 4294967296 + lo / 4294967296 := or_hi _ _ (by omega) (by omega) (by omega) (by omega) (by omega)
  have tm : (dx hi lo).tmod 100 = dx hi lo % 100 := Int.tmod_eq_emod_of_nonneg (by rw [ex]; omega)
  have td : (dx hi lo).tdiv 100 = dx hi lo / 100 := Int.tdiv_eq_ediv_of_nonneg (by rw [ex]; omega)
  have ey : dy hi lo = (dx hi lo) % 100 * 4294967296 + lo % 4294967296 := by
    unfold dy
    have w : W (dx hi lo % 100 * 4294967296) = dx hi lo % 100 * 4294967296 := by rw [W_eq]; omega
    rw [tm, w, and32 lo h2 h3]
    exact or_hi _ _ (by omega) (by omega) (by omega) (by omega) (by omega)
  have td2 : (dy hi lo).tdiv 100 = dy hi lo / 100 := Int.tdiv_eq_ediv_of_nonneg (by rw [ey]; omega)
  unfold divOut
  rw [td, td2, W_eq, W_eq, W_eq, W_eq]
  generalize dy hi lo = Y at *
  generalize dx hi lo = X at *
  omega

end Go.Proofs.Qxb6604497a
