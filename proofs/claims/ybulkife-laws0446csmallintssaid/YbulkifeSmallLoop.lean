/-
  The law on small integer bases: the bases beside 0, 1 and -1.
-/
import Derived.Test.YbulkifeSmallWalk
import Derived.Test.YbulkifeSmallTab
namespace Go.Proofs.Ybulkife
set_option linter.unusedVariables false
set_option linter.unusedSimpArgs false
open Go.RowKit Ieee
attribute [local go_sem] run_store_float

theorem small_entry (b : Int) (k : Nat) (h0 : -15 ≤ b) (h1 : b ≤ 15) (n0 : b ≠ 0) (n1 : b ≠ 1) (n2 : b ≠ -1) (hk : k ≤ 60) (p0 : -9007199254740992 ≤ b ^ k) (p1 : b ^ k ≤ 9007199254740992) :
    ∃ rh rl, SPow 6 one3 (floatOfInt .f64 b, 0, 0) k (rh, rl, 0) ∧ double.order rh (floatOfInt .f64 (b ^ k)) = some .eq ∧ double.order rl 0 = some .eq := by
  have h := small_tab (b + 15).toNat k (by omega) (by omega)
  unfold smallB at h
  rw [show (((b + 15).toNat : Nat) : Int) - 15 = b by omega] at h
  dsimp only at h
  rw [if_neg (by omega), if_neg (by omega)] at h
  split at h
  · rename_i r hr
    rw [Bool.and_eq_true, Bool.and_eq_true] at h
    exact ⟨r.1, r.2, spowB_sound 6 (oneW, 0) (floatOfInt .f64 b, 0) k r hr, by simpa using h.1.1, by simpa using h.1.2⟩
  · cases h

set_option maxHeartbeats 400000 in
theorem small_far (a base k : Int) (w : World) (hbase : a.tmod 16 = base) (ha0 : -128 ≤ a) (ha1 : a ≤ 127) (n0 : (base == 0) = false) (n1 : (base != 1) = true) (n2 : (base == -1) = false) (hk : 60 < k) (hk1 : k ≤ 9223372036854775807) :
    Calls Yba.prog 6 #[.int .i8 a, .int .i64 k] w fun e w' => e = .returned (.bool true) ∧ Below w.heap.size w w' := by
  have hpos : 0 < k := by omega
  go_enter Yba.func6, Yba.ntmps6
  go_wp2_with fail
  go_ret
  exact ⟨rfl, Below.refl _ _⟩

set_option maxHeartbeats 800000 in
theorem small_near (a base : Int) (k : Nat) (w : World) (hbase : a.tmod 16 = base) (ha0 : -128 ≤ a) (ha1 : a ≤ 127) (n0 : (base == 0) = false) (n1 : (base != 1) = true) (n2 : (base == -1) = false) (hpos : (0 : Int) < (k : Int)) (hk : (k : Int) ≤ 60) :
    Calls Yba.prog 6 #[.int .i8 a, .int .i64 k] w fun e w' => e = .returned (.bool true) ∧ Below w.heap.size w w' := by
  have hb := tmod_bd a ha0 ha1
  rw [hbase] at hb
  obtain ⟨hb15, hb15'⟩ := hb
  go_enter Yba.func6, Yba.ntmps6
  go_wp2_with fail
  go_loop [6, 7] (fun vw vi => ∃ j : Nat, j ≤ k ∧ vi = .int .i64 j ∧ vw = .int .i64 (base ^ j) ∧ -9007199254740992 ≤ base ^ j ∧ base ^ j ≤ 9007199254740992) (fun _ vi => k - (intOf vi).toNat)
  case atStart => exact ⟨0, Nat.zero_le _, rfl, by rw [Int.pow_zero], by rw [Int.pow_zero]; omega, by rw [Int.pow_zero]; omega⟩
  case round =>
    obtain ⟨j, hj, rfl, rfl, p0, p1⟩ := hrel
    by_cases hlt : j < k
    · have HS : Hid (base ^ (j + 1) = base ^ j * base) := Int.pow_succ _ _
      generalize base ^ j = p at p0 p1 HS
      have hlt' : (j : Int) < (k : Int) := by omega
      have q0 : -135107988821114880 ≤ p * base := by
        rcases Int.le_total 0 base with h | h
        · have := Int.mul_le_mul_of_nonneg_right p0 h
          have : (-9007199254740992) * 15 ≤ -9007199254740992 * base := by omega
          omega
        · have := Int.mul_le_mul_of_nonpos_right p1 h
          omega
      have q1 : p * base ≤ 135107988821114880 := by
        rcases Int.le_total 0 base with h | h
        · have := Int.mul_le_mul_of_nonneg_right p1 h
          omega
        · have := Int.mul_le_mul_of_nonpos_right p0 h
          omega
      by_cases hbig : 9007199254740992 < p * base
      · go_wp2_with fail
        go_ret
        exact ⟨rfl, Below.refl _ _⟩
      · by_cases hlow : p * base < -9007199254740992
        · go_wp2_with fail
          go_ret
          exact ⟨rfl, Below.refl _ _⟩
        · go_wp2_with fail
          go_round
          case rel => exact ⟨j + 1, by omega, by go_num, by rw [HS.out], by rw [HS.out]; omega, by rw [HS.out]; omega⟩
          case measure => simp [intOf]; omega
    · have hjk : j = k := by omega
      subst hjk
      obtain ⟨rh, rl, hs, o1, o2⟩ := small_entry base j hb15 hb15' (by simpa using n0) (by simpa using n1) (by simpa using n2) (by omega) p0 p1
      have HS : Hid (SPow 6 one3 (floatOfInt .f64 base, 0, 0) ((j : Int)).toNat (rh, rl, 0)) := by rw [Int.toNat_natCast]; exact hs
      have g1 : (FloatKind.f64.format.order rh (floatOfInt .f64 (base ^ j)) == some .eq) = true := by
        rw [show FloatKind.f64.format = double from rfl, o1]; rfl
      have g2 : (FloatKind.f64.format.order rl 0 == some .eq) = true := by
        rw [show FloatKind.f64.format = double from rfl, o2]; rfl
      clear hs o1 o2
      generalize base ^ j = p at p0 p1 g1
      go_wp2_with fail
      refine (spow_at 6 base j rh rl _ hb15 hb15' (by omega) (by omega) HS.out).mono ?_
      rintro e w1 ⟨rfl, hb1⟩
      go_wp2_with fail
      go_ret
      exact ⟨rfl, hb1.alloc hb1.size _⟩
end Go.Proofs.Ybulkife
