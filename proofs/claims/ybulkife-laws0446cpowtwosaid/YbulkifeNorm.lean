/-
  math.Abs, and normalized where it hands its argument on.
-/
import Derived.Test.YbulkifeTwo
namespace Go.Proofs.Ybulkife
set_option linter.unusedVariables false
set_option linter.unusedSimpArgs false
open Go.RowKit Ieee
attribute [local go_sem] run_store_float call24 call26 bits_run frombits_run

def absW (h : Nat) : Nat := h % 9223372036854775808

theorem andNot_sign (h : Nat) (hh : h < 18446744073709551616) : bits .andNot .u64 (h : Int) 9223372036854775808 = ((absW h : Nat) : Int) := by
  have h1 : (BitVec.ofInt 64 (h : Int)).toNat = h := by
    rw [BitVec.ofInt_natCast, BitVec.toNat_ofNat]; exact Nat.mod_eq_of_lt (by omega)
  have h2 : (~~~ (BitVec.ofInt 64 9223372036854775808)).toNat = 2 ^ 63 - 1 := by decide
  show IntKind.u64.wrap ((BitVec.ofInt 64 (h : Int) &&& ~~~ (BitVec.ofInt 64 9223372036854775808)).toNat : Int) = _
  rw [BitVec.toNat_and, h1, h2, Nat.and_two_pow_sub_one_eq_mod, IntKind.wrap_u64]
  unfold absW
  omega

theorem abs_any (h : Nat) (w : World) (hh : h < 18446744073709551616) :
    Calls Yba.prog 17 #[.float .f64 h] w fun e w' => e = .returned (.float .f64 (absW h)) ∧ w' = w := by
  have hb := andNot_sign h hh
  go_enter Yba.func17, Yba.ntmps17
  go_wp2
  go_ret
  exact ⟨by simp [hb], rfl⟩

set_option maxHeartbeats 400000 in
theorem norm_in (h l : Nat) (x : Int) (w : World) (hh : h < 18446744073709551616)
    (h1 : (double.order (absW h) 2805742567851819008 == some .gt || double.order (absW h) 2805742567851819008 == some .eq) = true)
    (h2 : (double.order (absW h) 6408622269748215808 == some .lt || double.order (absW h) 6408622269748215808 == some .eq) = true) :
    Calls Yba.prog 13 #[.agg #[.float .f64 h, .float .f64 l], .int .i64 x] w fun e w' => e = .returned (.agg #[.float .f64 h, .float .f64 l, .int .i64 x]) ∧ Below w.heap.size w w' := by
  have g1 : (FloatKind.f64.format.order (absW h) 2805742567851819008 == some .gt || FloatKind.f64.format.order (absW h) 2805742567851819008 == some .eq) = true := h1
  have g2 : (FloatKind.f64.format.order (absW h) 6408622269748215808 == some .lt || FloatKind.f64.format.order (absW h) 6408622269748215808 == some .eq) = true := h2
  clear h1 h2
  generalize ha : absW h = a at g1 g2
  have HA : Hid (absW h = a) := ha
  clear ha
  go_enter Yba.func13, Yba.ntmps13
  go_wp2_with fail
  refine (abs_any _ _ hh).mono ?_
  rintro e w' ⟨rfl, rfl⟩
  rw [HA.out]
  go_wp2_with fail
  refine bodyPost_ret (v := .agg #[.float .f64 h, .float .f64 l, .int .i64 x]) (by simp [results, Yba.results13, go_sem]) rfl ⟨rfl, ?_⟩
  exact ((Below.refl _ _).alloc (Nat.le_refl _) _).alloc (by simp) _

set_option maxHeartbeats 400000 in
theorem norm_zero (l : Nat) (x : Int) (w : World) :
    Calls Yba.prog 13 #[.agg #[.float .f64 0, .float .f64 l], .int .i64 x] w fun e w' => e = .returned (.agg #[.float .f64 0, .float .f64 l, .int .i64 x]) ∧ Below w.heap.size w w' := by
  have g1 : (FloatKind.f64.format.order 0 2805742567851819008 == some .gt || FloatKind.f64.format.order 0 2805742567851819008 == some .eq) = false := by decide +kernel
  have g2 : (FloatKind.f64.format.order 0 0 == some .eq) = true := by decide +kernel
  go_enter Yba.func13, Yba.ntmps13
  go_wp2_with fail
  refine (abs_any 0 _ (by omega)).mono ?_
  rintro e w' ⟨rfl, rfl⟩
  rw [show absW 0 = 0 from rfl]
  go_wp2_with fail
  refine bodyPost_ret (v := .agg #[.float .f64 0, .float .f64 l, .int .i64 x]) (by simp [results, Yba.results13, go_sem]) rfl ⟨rfl, ?_⟩
  exact ((Below.refl _ _).alloc (Nat.le_refl _) _).alloc (by simp) _
end Go.Proofs.Ybulkife
