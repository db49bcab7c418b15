/-
  Powers of two as words: W t = t * 2^52 is the double 2^(t - 1023). Products, sums and the comparisons on them. No Go in sight.
-/
import Derived.Test.YbulkifeFloat
namespace Go.Proofs.Ybulkife.Fl
open Ieee

def W (t : Nat) : Nat := t * 4503599627370496

theorem W_word (t : Nat) (h : 1 ≤ t) : W t = double.word false ((t - 1) * 4503599627370496 + 4503599627370496) := by
  unfold W Format.word
  simp only [Bool.false_eq_true, if_false]
  omega

theorem read_W (t : Nat) (h1 : 1 ≤ t) (h2 : t ≤ 2046) : double.read (W t) = .number false 4503599627370496 ((t : Int) - 1075) := by
  rw [W_word t h1, read_norm false _ _ (by omega) (by omega) (by omega)]
  congr 1
  omega

theorem near_W (t s : Nat) (e : Int) (h1 : 1 ≤ t) (h2 : t ≤ 2046) (he : e = (t : Int) - 1023 - s) : double.nearest false (2 ^ s) e = W t := by
  have a : double.nearest false 4503599627370496 ((t : Int) - 1075) = W t := by
    rw [W_word t h1, ← nearest_norm false 4503599627370496 (t - 1) (by omega) (by omega) (by omega)]
    congr 1
    omega
  have b := nearest_scale double false 1 52 ((t : Int) - 1023)
  have c := nearest_scale double false 1 s ((t : Int) - 1023)
  rw [Nat.one_mul] at b c
  rw [he, c, ← b, ← a]
  congr 1
  omega

theorem mul_W (s t : Nat) (hs1 : 1 ≤ s) (hs2 : s ≤ 2046) (ht1 : 1 ≤ t) (ht2 : t ≤ 2046) (h1 : 1024 ≤ s + t) (h2 : s + t ≤ 3069) : double.mul (W s) (W t) = some (W (s + t - 1023)) := by
  unfold Format.mul
  rw [read_W s hs1 hs2, read_W t ht1 ht2]
  simp only [Datum.product, Option.map, Format.write, Bool.xor_false]
  rw [show (4503599627370496 * 4503599627370496 : Nat) = 2 ^ 104 by decide, near_W (s + t - 1023) 104 _ (by omega) (by omega) (by omega)]

theorem fma_W (s t : Nat) (hs1 : 1 ≤ s) (hs2 : s ≤ 2046) (ht1 : 1 ≤ t) (ht2 : t ≤ 2046) (h1 : 1024 ≤ s + t) (h2 : s + t ≤ 3069) (n : Nat) (hn : double.read n = .number true 4503599627370496 (((s + t - 1023 : Nat) : Int) - 1075)) :
    double.fma (W s) (W t) n = some 0 := by
  unfold Format.fma
  rw [read_W s hs1 hs2, read_W t ht1 ht2, hn]
  simp only [Datum.product, Option.bind, Datum.sum, Option.map, Format.write, Bool.xor_false]
  have e1 : min ((s : Int) - 1075 + ((t : Int) - 1075)) (((s + t - 1023 : Nat) : Int) - 1075) = (s : Int) - 1075 + ((t : Int) - 1075) := by omega
  rw [e1]
  have e2 : ((s : Int) - 1075 + ((t : Int) - 1075) - ((s : Int) - 1075 + ((t : Int) - 1075))).toNat = 0 := by omega
  have e3 : (((s + t - 1023 : Nat) : Int) - 1075 - ((s : Int) - 1075 + ((t : Int) - 1075))).toNat = 52 := by omega
  rw [e2, e3]
  have e4 : signed false (4503599627370496 * 4503599627370496) 0 + signed true 4503599627370496 52 = 0 := by decide +kernel
  simp only [e4, if_true, Bool.false_and, Int.natAbs_zero]
  rfl

theorem order_W (s t : Nat) (hs1 : 1 ≤ s) (hs2 : s ≤ 2046) (ht1 : 1 ≤ t) (ht2 : t ≤ 2046) : double.order (W s) (W t) = some (compare s t) := by
  unfold Format.order
  rw [read_W s hs1 hs2, read_W t ht1 ht2]
  simp only [Datum.order]
  congr 1
  unfold signed
  simp only [Bool.false_eq_true, if_false, Nat.shiftLeft_eq]
  rcases Nat.lt_trichotomy s t with h | h | h
  · have a : ((s : Int) - 1075 - min ((s : Int) - 1075) ((t : Int) - 1075)).toNat = 0 := by omega
    have b : ((t : Int) - 1075 - min ((s : Int) - 1075) ((t : Int) - 1075)).toNat = t - s := by omega
    rw [a, b, (Nat.compare_eq_lt).2 h, (Int.compare_eq_lt).2]
    have : 2 ^ 1 ≤ 2 ^ (t - s) := Nat.pow_le_pow_right (by omega) (by omega)
    omega
  · subst h
    simp
  · have a : ((t : Int) - 1075 - min ((s : Int) - 1075) ((t : Int) - 1075)).toNat = 0 := by omega
    have b : ((s : Int) - 1075 - min ((s : Int) - 1075) ((t : Int) - 1075)).toNat = s - t := by omega
    rw [a, b, (Nat.compare_eq_gt).2 h, (Int.compare_eq_gt).2]
    have : 2 ^ 1 ≤ 2 ^ (s - t) := Nat.pow_le_pow_right (by omega) (by omega)
    omega
end Go.Proofs.Ybulkife.Fl
