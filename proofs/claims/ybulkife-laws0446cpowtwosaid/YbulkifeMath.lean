/-
  math.Inf, IsInf, IsNaN, normalize, frexp, ldexp at powers of two.
-/
import Derived.Test.YbulkifeTwoTab
import Derived.Test.YbulkifeNorm
namespace Go.Proofs.Ybulkife
set_option linter.unusedVariables false
set_option linter.unusedSimpArgs false
open Go.RowKit Ieee
attribute [local go_sem] call24 call26 bits_run frombits_run

theorem absW_W (u : Nat) (h : u ≤ 2046) : absW (Fl.W u) = Fl.W u := by
  have := Fl.W_lt u h
  unfold absW; omega

theorem abs_W (u : Nat) (w : World) (h : u ≤ 2046) : Calls Yba.prog 17 #[.float .f64 (Fl.W u)] w fun e w' => e = .returned (.float .f64 (Fl.W u)) ∧ w' = w := by
  have a := abs_any (Fl.W u) w (by have := Fl.W_lt u h; omega)
  rwa [absW_W u h] at a

theorem inf_walk (w : World) : Calls Yba.prog 18 #[.int .i64 1] w fun e w' => e = .returned (.float .f64 9218868437227405312) ∧ w' = w := by
  go_enter Yba.func18, Yba.ntmps18
  go_wp2
  go_ret
  exact ⟨rfl, rfl⟩

theorem order_W_inf (u : Nat) (h1 : 1 ≤ u) (h2 : u ≤ 2046) : double.order (Fl.W u) 9218868437227405312 = some .lt := by
  unfold Format.order
  rw [Fl.read_W u h1 h2, show double.read 9218868437227405312 = .infinity false by decide +kernel]
  rfl

theorem order_W_max (u : Nat) (h1 : 1 ≤ u) (h2 : u ≤ 2046) : double.order (Fl.W u) 9218868437227405311 = some .lt := by
  unfold Format.order
  rw [Fl.read_W u h1 h2, show double.read 9218868437227405311 = .number false 9007199254740991 971 by decide +kernel]
  simp only [Datum.order]
  congr 1
  have e1 : min ((u : Int) - 1075) 971 = (u : Int) - 1075 := by omega
  have e2 : ((u : Int) - 1075 - ((u : Int) - 1075)).toNat = 0 := by omega
  simp only [e1, e2, signed, Bool.false_eq_true, if_false, Nat.shiftLeft_eq]
  have hp : 0 < 2 ^ ((971 : Int) - ((u : Int) - 1075)).toNat := Nat.two_pow_pos _
  rw [Int.compare_eq_lt]
  omega

theorem isInf_W (u : Nat) (w : World) (h1 : 1 ≤ u) (h2 : u ≤ 2046) : Calls Yba.prog 22 #[.float .f64 (Fl.W u), .int .i64 0] w fun e w' => e = .returned (.bool false) ∧ w' = w := by
  have o : FloatKind.f64.format.order (Fl.W u) 9218868437227405311 = some .lt := order_W_max u h1 h2
  go_enter Yba.func22, Yba.ntmps22
  go_wp2_with (go_at_call 17; refine (abs_W u _ h2).mono ?_; rintro e w' ⟨rfl, rfl⟩)
  go_ret
  exact ⟨by simp, rfl⟩

theorem isNaN_W (u : Nat) (w : World) (h1 : 1 ≤ u) (h2 : u ≤ 2046) : Calls Yba.prog 9 #[.float .f64 (Fl.W u)] w fun e w' => e = .returned (.bool false) ∧ w' = w := by
  have o : FloatKind.f64.format.order (Fl.W u) (Fl.W u) = some .eq := by
    have := Fl.order_W u u h1 h2 h1 h2
    rw [Nat.compare_eq_eq.2 rfl] at this
    exact this
  go_enter Yba.func9, Yba.ntmps9
  go_wp2
  go_ret
  exact ⟨by simp, rfl⟩

theorem normalize_W (u : Nat) (w : World) (h1 : 1 ≤ u) (h2 : u ≤ 2046) : Calls Yba.prog 23 #[.float .f64 (Fl.W u)] w fun e w' => e = .returned (.tuple #[.float .f64 (Fl.W u), .int .i64 0]) ∧ w' = w := by
  have o : (FloatKind.f64.format.order (Fl.W u) 4503599627370496 == some .lt) = false := by
    have h := Fl.order_W u 1 h1 h2 (by omega) (by omega)
    rw [show Fl.W 1 = 4503599627370496 from rfl] at h
    rw [show FloatKind.f64.format = double from rfl, h]
    rcases Nat.lt_or_ge 1 u with k | k
    · rw [Nat.compare_eq_gt.2 k]; rfl
    · rw [Nat.compare_eq_eq.2 (by omega : u = 1)]; rfl
  go_enter Yba.func23, Yba.ntmps23
  go_wp2_with (go_at_call 17; refine (abs_W u _ h2).mono ?_; rintro e w' ⟨rfl, rfl⟩)
  go_ret2
  exact ⟨rfl, rfl⟩

theorem shr_W (u : Nat) : ((Fl.W u : Nat) : Int) / 4503599627370496 = (u : Int) := by unfold Fl.W; omega
theorem not_tab : ((List.range 2047).all fun u => bits .andNot .u64 ((Fl.W u : Nat) : Int) 9218868437227405312 == 0) = true := by decide +kernel
theorem not_W (u : Nat) (h : u ≤ 2046) : bits .andNot .u64 ((Fl.W u : Nat) : Int) 9218868437227405312 = 0 := by
  have t := not_tab
  simp only [List.all_eq_true, List.mem_range] at t
  simpa using t u (by omega)
theorem and_mask (u : Nat) (h : u ≤ 2046) : bits .and .u64 (u : Int) 2047 = (u : Int) := by
  have a := bits_and_u64_nat u 2047 (by omega) (by omega)
  rw [show (2047 : Nat) = 2 ^ 11 - 1 by decide, Nat.and_two_pow_sub_one_eq_mod, Nat.mod_eq_of_lt (by omega)] at a
  exact a
theorem and_mask_i (u : Nat) (h : u ≤ 2046) : bits .and .i64 (u : Int) 2047 = (u : Int) := by
  have h1 : (BitVec.ofInt 64 (u : Int)).toNat = u := by
    rw [BitVec.ofInt_natCast, BitVec.toNat_ofNat]; exact Nat.mod_eq_of_lt (by omega)
  have h2 : (BitVec.ofInt 64 2047).toNat = 2 ^ 11 - 1 := by decide
  show IntKind.i64.wrap ((BitVec.ofInt 64 (u : Int) &&& BitVec.ofInt 64 2047).toNat : Int) = _
  rw [BitVec.toNat_and, h1, h2, Nat.and_two_pow_sub_one_eq_mod, Nat.mod_eq_of_lt (by omega), IntKind.wrap_i64]
  omega
theorem or_zero (n : Nat) (h : n < 18446744073709551616) : bits .or .u64 0 (n : Int) = (n : Int) := by
  have a := bits_or_u64_nat 0 n (by omega) h
  rw [Nat.zero_or] at a
  exact a
theorem or_half : bits .or .u64 0 4602678819172646912 = 4602678819172646912 := by decide +kernel

set_option maxHeartbeats 400000 in
theorem frexp_W (u : Nat) (w : World) (h1 : 1 ≤ u) (h2 : u ≤ 2046) : Calls Yba.prog 28 #[.float .f64 (Fl.W u)] w fun e w' => e = .returned (.tuple #[.float .f64 (Fl.W 1022), .int .i64 ((u : Int) - 1022)]) ∧ w' = w := by
  have o : FloatKind.f64.format.order (Fl.W u) 0 = some .gt := Fl.order_W_zero u h1 h2
  have b1 := shr_W u
  have b2 := not_W u h2
  have b3 := and_mask u h2
  have b4 := or_half
  go_enter Yba.func28, Yba.ntmps28
  go_wp2_with fail
  refine (isInf_W u _ h1 h2).mono ?_
  rintro e w' ⟨rfl, rfl⟩
  go_wp2_with fail
  refine (isNaN_W u _ h1 h2).mono ?_
  rintro e w' ⟨rfl, rfl⟩
  go_wp2_with fail
  refine (normalize_W u _ h1 h2).mono ?_
  rintro e w' ⟨rfl, rfl⟩
  go_wp2_with fail
  go_ret2
  exact ⟨by simp [Fl.W]; omega, rfl⟩

set_option maxHeartbeats 400000 in
theorem Frexp_W (u : Nat) (w : World) (h1 : 1 ≤ u) (h2 : u ≤ 2046) : Calls Yba.prog 19 #[.float .f64 (Fl.W u)] w fun e w' => e = .returned (.tuple #[.float .f64 (Fl.W 1022), .int .i64 ((u : Int) - 1022)]) ∧ w' = w := by
  go_enter Yba.func19, Yba.ntmps19
  go_wp2_with fail
  refine (frexp_W u _ h1 h2).mono ?_
  rintro e w' ⟨rfl, rfl⟩
  go_wp2_with fail
  go_ret2
  exact ⟨rfl, rfl⟩

theorem mul_one_W (t : Nat) (h1 : 1 ≤ t) (h2 : t ≤ 2046) : double.mul 4607182418800017408 (Fl.W t) = some (Fl.W t) := by
  have h := Fl.mul_W 1023 t (by omega) (by omega) h1 h2 (by omega) (by omega)
  rw [show Fl.W 1023 = 4607182418800017408 from rfl, show 1023 + t - 1023 = t by omega] at h
  exact h

set_option maxHeartbeats 400000 in
theorem ldexp_W (u v : Nat) (k : Int) (w : World) (h1 : 1 ≤ u) (h2 : u ≤ 2046) (v1 : 1 ≤ v) (v2 : v ≤ 2046) (hk : (v : Int) - u = k) : Calls Yba.prog 16 #[.float .f64 (Fl.W u), .int .i64 k] w fun e w' => e = .returned (.float .f64 (Fl.W v)) ∧ w' = w := by
  have o : FloatKind.f64.format.order (Fl.W u) 0 = some .gt := Fl.order_W_zero u h1 h2
  have b1 := shr_W u
  have b2 := not_W u h2
  have b3 := and_mask_i u h2
  have m1 := mul_run 22 _ _ _ (mul_one_W v v1 v2)
  have k1 : -2046 ≤ k := by omega
  have k2 : k ≤ 2046 := by omega
  have g1 : ¬ k + (↑u - 1023) < -1075 := by omega
  have g2 : ¬ 1023 < k + (↑u - 1023) := by omega
  have g3 : ¬ k + (↑u - 1023) < -1022 := by omega
  have b5 : bits .or .u64 0 ((k + ((u : Int) - 1023) + 1023) * 4503599627370496) = ((Fl.W v : Nat) : Int) := by
    rw [show (k + ((u : Int) - 1023) + 1023) * 4503599627370496 = ((Fl.W v : Nat) : Int) by unfold Fl.W; omega]
    exact or_zero _ (by have := Fl.W_lt v v2; omega)
  clear hk
  go_enter Yba.func16, Yba.ntmps16
  go_wp2_with fail
  refine (isInf_W u _ h1 h2).mono ?_
  rintro e w' ⟨rfl, rfl⟩
  go_wp2_with fail
  refine (isNaN_W u _ h1 h2).mono ?_
  rintro e w' ⟨rfl, rfl⟩
  go_wp2_with fail
  refine (normalize_W u _ h1 h2).mono ?_
  rintro e w' ⟨rfl, rfl⟩
  go_wp2_with fail
  go_ret
  exact ⟨rfl, rfl⟩

set_option maxHeartbeats 400000 in
theorem Ldexp_W (u v : Nat) (k : Int) (w : World) (h1 : 1 ≤ u) (h2 : u ≤ 2046) (v1 : 1 ≤ v) (v2 : v ≤ 2046) (hk : (v : Int) - u = k) : Calls Yba.prog 11 #[.float .f64 (Fl.W u), .int .i64 k] w fun e w' => e = .returned (.float .f64 (Fl.W v)) ∧ w' = w := by
  have HK : Hid ((v : Int) - u = k) := hk
  clear hk
  go_enter Yba.func11, Yba.ntmps11
  go_wp2_with fail
  refine (ldexp_W u v k _ h1 h2 v1 v2 HK.out).mono ?_
  rintro e w' ⟨rfl, rfl⟩
  go_wp2_with fail
  go_ret
  exact ⟨rfl, rfl⟩

theorem Ldexp_zero (k : Int) (w : World) : Calls Yba.prog 11 #[.float .f64 0, .int .i64 k] w fun e w' => e = .returned (.float .f64 0) ∧ w' = w := by
  have o : FloatKind.f64.format.order 0 0 = some .eq := by decide +kernel
  go_enter Yba.func11, Yba.ntmps11
  go_wp2
  go_ret
  exact ⟨rfl, rfl⟩
end Go.Proofs.Ybulkife
