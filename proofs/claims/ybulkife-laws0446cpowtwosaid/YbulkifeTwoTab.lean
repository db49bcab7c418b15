/-
  Facts on powers of two, one word at a time.
-/
import Derived.Test.YbulkifeTwoPow
import Derived.Test.YbulkifeTwo
namespace Go.Proofs.Ybulkife.Fl
open Ieee

theorem read_zero : double.read 0 = .number false 0 (-1074) := by decide +kernel
theorem near_zero (e : Int) : double.nearest false 0 e = 0 := by unfold Format.nearest; rw [if_pos rfl]; rfl

theorem xor_sign (x : Nat) (h : x < 9223372036854775808) : x ^^^ 9223372036854775808 = 9223372036854775808 + x := by
  have e : (9223372036854775808 : Nat) = 2 ^ 63 := by decide
  rw [e] at h ⊢
  apply Nat.eq_of_testBit_eq
  intro i
  rw [Nat.testBit_xor, Nat.testBit_two_pow]
  rcases Nat.lt_trichotomy i 63 with k | k | k
  · rw [Nat.testBit_two_pow_add_gt k]
    have : ¬ 63 = i := by omega
    simp [this]
  · subst k
    rw [Nat.testBit_two_pow_add_eq]
    simp
  · have a : x.testBit i = false := Nat.testBit_lt_two_pow (Nat.lt_of_lt_of_le h (Nat.pow_le_pow_right (by omega) (by omega)))
    have b : (2 ^ 63 + x).testBit i = false := Nat.testBit_lt_two_pow (Nat.lt_of_lt_of_le (by omega : 2 ^ 63 + x < 2 ^ 64) (Nat.pow_le_pow_right (by omega) (by omega)))
    have : ¬ 63 = i := by omega
    rw [a, b]; simp [this]

theorem W_lt (u : Nat) (h : u ≤ 2046) : W u < 9223372036854775808 := by unfold W; omega

theorem read_negW (u : Nat) (h1 : 1 ≤ u) (h2 : u ≤ 2046) : double.read (negW (W u)) = .number true 4503599627370496 ((u : Int) - 1075) := by
  have a : negW (W u) = double.word true ((u - 1) * 4503599627370496 + 4503599627370496) := by
    show W u ^^^ 9223372036854775808 = _
    rw [xor_sign _ (W_lt u h2)]
    unfold Format.word
    rw [sign_eq, if_pos rfl]
    unfold W
    omega
  rw [a, read_norm true _ _ (by omega) (by omega) (by omega)]
  congr 1
  omega

theorem mul_W_zero (u : Nat) (h1 : 1 ≤ u) (h2 : u ≤ 2046) : double.mul (W u) 0 = some 0 := by
  unfold Format.mul
  rw [read_W u h1 h2, read_zero]
  simp only [Datum.product, Option.map, Format.write, Bool.xor_false, Nat.mul_zero, near_zero]
theorem mul_zero_W (u : Nat) (h1 : 1 ≤ u) (h2 : u ≤ 2046) : double.mul 0 (W u) = some 0 := by
  unfold Format.mul
  rw [read_W u h1 h2, read_zero]
  simp only [Datum.product, Option.map, Format.write, Bool.xor_false, Nat.zero_mul, near_zero]

theorem near_W' (u : Nat) (h1 : 1 ≤ u) (h2 : u ≤ 2046) : double.nearest false (4503599627370496 * 2 ^ (u - 1)) (-1074) = W u := by
  rw [show (4503599627370496 : Nat) = 2 ^ 52 by decide, ← Nat.pow_add]
  exact near_W u (52 + (u - 1)) _ h1 h2 (by omega)

theorem add_W_zero (u : Nat) (h1 : 1 ≤ u) (h2 : u ≤ 2046) : double.add (W u) 0 = some (W u) := by
  unfold Format.add
  rw [read_W u h1 h2, read_zero]
  simp only [Datum.sum, Option.map, Format.write]
  have e1 : min ((u : Int) - 1075) (-1074) = -1074 := by omega
  have e2 : ((u : Int) - 1075 - -1074).toNat = u - 1 := by omega
  have e3 : ((-1074 : Int) - -1074).toNat = 0 := by omega
  simp only [e1, e2, e3, signed, Bool.false_eq_true, if_false, Nat.shiftLeft_eq, Nat.zero_mul]
  have hp : 0 < 2 ^ (u - 1) := Nat.two_pow_pos _
  have e4 : ((4503599627370496 * 2 ^ (u - 1) : Nat) : Int) + ((0 : Nat) : Int) = ((4503599627370496 * 2 ^ (u - 1) : Nat) : Int) := by omega
  rw [e4, if_neg (by omega), Int.natAbs_natCast]
  have e5 : decide (((4503599627370496 * 2 ^ (u - 1) : Nat) : Int) < 0) = false := decide_eq_false (by omega)
  rw [e5, near_W' u h1 h2]

theorem sub_W_zero (u : Nat) (h1 : 1 ≤ u) (h2 : u ≤ 2046) : double.sub (W u) 0 = some (W u) := by
  unfold Format.sub
  rw [read_W u h1 h2, read_zero]
  simp only [Datum.opposite, Datum.sum, Option.map, Format.write]
  have e1 : min ((u : Int) - 1075) (-1074) = -1074 := by omega
  have e2 : ((u : Int) - 1075 - -1074).toNat = u - 1 := by omega
  have e3 : ((-1074 : Int) - -1074).toNat = 0 := by omega
  simp only [e1, e2, e3, signed, Bool.false_eq_true, if_false, Bool.not_false, if_true, Nat.shiftLeft_eq, Nat.zero_mul]
  have hp : 0 < 2 ^ (u - 1) := Nat.two_pow_pos _
  have e4 : ((4503599627370496 * 2 ^ (u - 1) : Nat) : Int) + -((0 : Nat) : Int) = ((4503599627370496 * 2 ^ (u - 1) : Nat) : Int) := by omega
  rw [e4, if_neg (by omega), Int.natAbs_natCast]
  have e5 : decide (((4503599627370496 * 2 ^ (u - 1) : Nat) : Int) < 0) = false := decide_eq_false (by omega)
  rw [e5, near_W' u h1 h2]

theorem sub_W_W (u : Nat) (h1 : 1 ≤ u) (h2 : u ≤ 2046) : double.sub (W u) (W u) = some 0 := by
  unfold Format.sub
  rw [read_W u h1 h2]
  simp only [Datum.opposite, Datum.sum, Option.map, Format.write]
  have e1 : signed false 4503599627370496 ((u : Int) - 1075 - min ((u : Int) - 1075) ((u : Int) - 1075)).toNat + signed (!false) 4503599627370496 ((u : Int) - 1075 - min ((u : Int) - 1075) ((u : Int) - 1075)).toNat = 0 := by
    unfold signed; simp only [Bool.false_eq_true, if_false, Bool.not_false, if_true]; omega
  simp only [e1, if_true, Bool.false_and, Int.natAbs_zero, near_zero]

theorem order_W_zero (u : Nat) (h1 : 1 ≤ u) (h2 : u ≤ 2046) : double.order (W u) 0 = some .gt := by
  unfold Format.order
  rw [read_W u h1 h2, read_zero]
  simp only [Datum.order]
  congr 1
  have e1 : min ((u : Int) - 1075) (-1074) = -1074 := by omega
  have e2 : ((u : Int) - 1075 - -1074).toNat = u - 1 := by omega
  have e3 : ((-1074 : Int) - -1074).toNat = 0 := by omega
  simp only [e1, e2, e3, signed, Bool.false_eq_true, if_false, Nat.shiftLeft_eq, Nat.zero_mul]
  have hp : 0 < 2 ^ (u - 1) := Nat.two_pow_pos _
  rw [Int.compare_eq_gt]
  omega

theorem z_add : double.add 0 0 = some 0 := by decide +kernel
theorem z_sub : double.sub 0 0 = some 0 := by decide +kernel

theorem tfMul_W (s t : Nat) (hs1 : 1 ≤ s) (hs2 : s ≤ 2046) (ht1 : 1 ≤ t) (ht2 : t ≤ 2046) (h1 : 1024 ≤ s + t) (h2 : s + t ≤ 3069) : Nonempty (TfMul (W s) 0 (W t) 0 (W (s + t - 1023)) 0) := by
  have u1 : 1 ≤ s + t - 1023 := by omega
  have u2 : s + t - 1023 ≤ 2046 := by omega
  exact ⟨⟨W (s + t - 1023), 0, 0, 0, 0, 0, mul_W s t hs1 hs2 ht1 ht2 h1 h2, fma_W s t hs1 hs2 ht1 ht2 h1 h2 _ (read_negW _ u1 u2), mul_W_zero s hs1 hs2, z_add, mul_zero_W t ht1 ht2, z_add,
    ⟨0, W (s + t - 1023), 0, 0, add_W_zero _ u1 u2, sub_W_W _ u1 u2, sub_W_zero _ u1 u2, sub_W_W _ u1 u2, z_sub, z_add⟩⟩⟩
end Go.Proofs.Ybulkife.Fl
