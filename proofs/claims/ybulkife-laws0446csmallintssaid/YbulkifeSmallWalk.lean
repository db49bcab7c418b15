/-
  The law on small integer bases: its walk.
-/
import Derived.Test.YbulkifeSmallOnes
import Derived.Test.YbulkifeSmallPlain
namespace Go.Proofs.Ybulkife
set_option linter.unusedVariables false
set_option linter.unusedSimpArgs false
open Go.RowKit Ieee
attribute [local go_sem] run_store_float

theorem base_tab : ((List.range 31).all fun i => inRB (floatOfInt .f64 ((i : Int) - 15))) = true := by decide +kernel
theorem base_norm (b : Int) (h0 : -15 ≤ b) (h1 : b ≤ 15) : Norm3 (floatOfInt .f64 b) 0 0 (floatOfInt .f64 b, 0, 0) := by
  have h := base_tab
  simp only [List.all_eq_true, List.mem_range] at h
  have h := h (b + 15).toNat (by omega)
  rw [show (((b + 15).toNat : Nat) : Int) - 15 = b by omega] at h
  exact norm3_in _ _ _ h

theorem spow_at (fuel : Nat) (b k : Int) (rh rl : Nat) (w : World) (h0 : -15 ≤ b) (h1 : b ≤ 15) (hk0 : -9223372036854775808 ≤ k) (hk1 : k ≤ 9223372036854775807)
    (hs : SPow fuel one3 (floatOfInt .f64 b, 0, 0) k.toNat (rh, rl, 0)) :
    Calls Yba.prog 10 #[.agg #[.float .f64 (floatOfInt .f64 b), .float .f64 0], .int .i64 k] w fun e w' => e = .returned (.agg #[.float .f64 rh, .float .f64 rl, .int .i64 0]) ∧ Below w.heap.size w w' :=
  spow_any fuel _ _ k _ (rh, rl, 0) w hk0 hk1 (base_norm b h0 h1) hs

theorem f0 : floatOfInt .f64 0 = 0 := by decide +kernel
theorem f1 : floatOfInt .f64 1 = 4607182418800017408 := by decide +kernel
theorem fm1 : floatOfInt .f64 (-1) = 13830554455654793216 := by decide +kernel

theorem tmod_bd (a : Int) (h0 : -128 ≤ a) (h1 : a ≤ 127) : -15 ≤ a.tmod 16 ∧ a.tmod 16 ≤ 15 := by
  rw [Int.tmod_eq_emod]; split <;> omega

set_option maxHeartbeats 400000 in
theorem small_nonpos (a base k : Int) (w : World) (hbase : a.tmod 16 = base) (ha0 : -128 ≤ a) (ha1 : a ≤ 127) (hk0 : -9223372036854775808 ≤ k) (hk : k ≤ 0) :
    Calls Yba.prog 6 #[.int .i8 a, .int .i64 k] w fun e w' => e = .returned (.bool true) ∧ Below w.heap.size w w' := by
  have hb := tmod_bd a ha0 ha1
  rw [hbase] at hb
  obtain ⟨hb15, hb15'⟩ := hb
  have o1 : (FloatKind.f64.format.order 4607182418800017408 (floatOfInt .f64 1) == some .eq) = true := by decide +kernel
  have o2 : (FloatKind.f64.format.order 0 0 == some .eq) = true := by decide +kernel
  have hs : SPow 0 one3 (floatOfInt .f64 base, 0, 0) k.toNat (4607182418800017408, 0, 0) := ⟨by omega, rfl⟩
  have HS : Hid (SPow 0 one3 (floatOfInt .f64 base, 0, 0) k.toNat (4607182418800017408, 0, 0)) := hs
  clear hs
  go_enter Yba.func6, Yba.ntmps6
  go_wp2_with fail
  refine (spow_at 0 base k 4607182418800017408 0 _ hb15 hb15' hk0 (by omega) HS.out).mono ?_
  rintro e w1 ⟨rfl, hb1⟩
  go_wp2_with fail
  go_ret
  exact ⟨rfl, hb1.alloc hb1.size _⟩

set_option maxHeartbeats 400000 in
theorem small_zero (a k : Int) (w : World) (hbase : a.tmod 16 = 0) (ha0 : -128 ≤ a) (ha1 : a ≤ 127) (hk : 0 < k) (hk1 : k ≤ 9223372036854775807) :
    Calls Yba.prog 6 #[.int .i8 a, .int .i64 k] w fun e w' => e = .returned (.bool true) ∧ Below w.heap.size w w' := by
  have hb15 : (-15 : Int) ≤ 0 := by omega
  have hb15' : (0 : Int) ≤ 15 := by omega
  have o1 : (FloatKind.f64.format.order 0 (floatOfInt .f64 0) == some .eq) = true := by decide +kernel
  have o2 : (FloatKind.f64.format.order 0 0 == some .eq) = true := by decide +kernel
  have hs : SPow 63 one3 (floatOfInt .f64 0, 0, 0) k.toNat (0, 0, 0) := by rw [f0]; exact spow_zero 63 _ (by omega) (by omega)
  have HS : Hid (SPow 63 one3 (floatOfInt .f64 0, 0, 0) k.toNat (0, 0, 0)) := hs
  clear hs
  go_enter Yba.func6, Yba.ntmps6
  go_wp2_with fail
  refine (spow_at 63 0 k 0 0 _ hb15 hb15' (by omega) hk1 HS.out).mono ?_
  rintro e w1 ⟨rfl, hb1⟩
  go_wp2_with fail
  go_ret
  exact ⟨rfl, hb1.alloc hb1.size _⟩

set_option maxHeartbeats 400000 in
theorem small_one (a k : Int) (w : World) (hbase : a.tmod 16 = 1) (ha0 : -128 ≤ a) (ha1 : a ≤ 127) (hk : 0 < k) (hk1 : k ≤ 9223372036854775807) :
    Calls Yba.prog 6 #[.int .i8 a, .int .i64 k] w fun e w' => e = .returned (.bool true) ∧ Below w.heap.size w w' := by
  have hb15 : (-15 : Int) ≤ 1 := by omega
  have hb15' : (1 : Int) ≤ 15 := by omega
  have o1 : (FloatKind.f64.format.order 4607182418800017408 (floatOfInt .f64 1) == some .eq) = true := by decide +kernel
  have o2 : (FloatKind.f64.format.order 0 0 == some .eq) = true := by decide +kernel
  have hs : SPow 63 one3 (floatOfInt .f64 1, 0, 0) k.toNat (4607182418800017408, 0, 0) := by rw [f1]; exact spow_one _ (by omega)
  have HS : Hid (SPow 63 one3 (floatOfInt .f64 1, 0, 0) k.toNat (4607182418800017408, 0, 0)) := hs
  clear hs
  go_enter Yba.func6, Yba.ntmps6
  go_wp2_with fail
  refine (spow_at 63 1 k 4607182418800017408 0 _ hb15 hb15' (by omega) hk1 HS.out).mono ?_
  rintro e w1 ⟨rfl, hb1⟩
  go_wp2_with fail
  go_ret
  exact ⟨rfl, hb1.alloc hb1.size _⟩

set_option maxHeartbeats 400000 in
theorem small_mone_odd (a k : Int) (w : World) (hbase : a.tmod 16 = -1) (ha0 : -128 ≤ a) (ha1 : a ≤ 127) (hk : 0 < k) (hk1 : k ≤ 9223372036854775807) (ho : k % 2 = 1) :
    Calls Yba.prog 6 #[.int .i8 a, .int .i64 k] w fun e w' => e = .returned (.bool true) ∧ Below w.heap.size w w' := by
  have hb15 : (-15 : Int) ≤ -1 := by omega
  have hb15' : (-1 : Int) ≤ 15 := by omega
  have o1 : (FloatKind.f64.format.order 13830554455654793216 (floatOfInt .f64 (-1)) == some .eq) = true := by decide +kernel
  have o2 : (FloatKind.f64.format.order 0 0 == some .eq) = true := by decide +kernel
  have hs : SPow 64 one3 (floatOfInt .f64 (-1), 0, 0) k.toNat (13830554455654793216, 0, 0) := by
    have h := spow_mone k.toNat (by omega)
    rw [if_pos (by omega)] at h
    rw [fm1]; exact h
  have HS : Hid (SPow 64 one3 (floatOfInt .f64 (-1), 0, 0) k.toNat (13830554455654793216, 0, 0)) := hs
  clear hs
  have hkm : (k % 2 == 1) = true := by simp [ho]
  clear ho
  go_enter Yba.func6, Yba.ntmps6
  go_wp2_with fail
  refine (spow_at 64 (-1) k 13830554455654793216 0 _ hb15 hb15' (by omega) hk1 HS.out).mono ?_
  rintro e w1 ⟨rfl, hb1⟩
  go_wp2_with fail
  go_ret
  exact ⟨rfl, hb1.alloc hb1.size _⟩

set_option maxHeartbeats 400000 in
theorem small_mone_even (a k : Int) (w : World) (hbase : a.tmod 16 = -1) (ha0 : -128 ≤ a) (ha1 : a ≤ 127) (hk : 0 < k) (hk1 : k ≤ 9223372036854775807) (ho : ¬ k % 2 = 1) :
    Calls Yba.prog 6 #[.int .i8 a, .int .i64 k] w fun e w' => e = .returned (.bool true) ∧ Below w.heap.size w w' := by
  have hb15 : (-15 : Int) ≤ -1 := by omega
  have hb15' : (-1 : Int) ≤ 15 := by omega
  have o1 : (FloatKind.f64.format.order 4607182418800017408 (floatOfInt .f64 1) == some .eq) = true := by decide +kernel
  have o2 : (FloatKind.f64.format.order 0 0 == some .eq) = true := by decide +kernel
  have hs : SPow 64 one3 (floatOfInt .f64 (-1), 0, 0) k.toNat (4607182418800017408, 0, 0) := by
    have h := spow_mone k.toNat (by omega)
    rw [if_neg (by omega)] at h
    rw [fm1]; exact h
  have HS : Hid (SPow 64 one3 (floatOfInt .f64 (-1), 0, 0) k.toNat (4607182418800017408, 0, 0)) := hs
  clear hs
  have hkm : (k % 2 == 1) = false := by simp [ho]
  clear ho
  go_enter Yba.func6, Yba.ntmps6
  go_wp2_with fail
  refine (spow_at 64 (-1) k 4607182418800017408 0 _ hb15 hb15' (by omega) hk1 HS.out).mono ?_
  rintro e w1 ⟨rfl, hb1⟩
  go_wp2_with fail
  go_ret
  exact ⟨rfl, hb1.alloc hb1.size _⟩
end Go.Proofs.Ybulkife
