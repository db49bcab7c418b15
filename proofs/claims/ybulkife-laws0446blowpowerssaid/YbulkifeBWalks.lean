/-
  The walks of the three laws over powInt.
-/
import Derived.Test.YbulkifePow
import Derived.BigQuiet
namespace Go.Proofs.Ybulkife
open Go.RowKit Ieee

theorem fmt_double : FloatKind.f64.format = double := rfl

theorem one_self : double.order Fl.one Fl.one = some .eq := Fl.order_self _ (by rw [Fl.read_one]; rfl)

set_option maxHeartbeats 400000 in
theorem nonPos_walk (x : Nat) (k : Int) (w : World) (h0 : -9223372036854775808 ≤ k) (h1 : k ≤ 9223372036854775807) :
    Calls Yba.prog 4 #[.float .f64 x, .int .i64 k] w fun e w' => e = .returned (.bool true) ∧ Grown w w' := by
  have ho : FloatKind.f64.format.order 4607182418800017408 4607182418800017408 = some .eq := one_self
  by_cases hk : 0 < k
  · go_enter Yba.func4, Yba.ntmps4
    go_wp2_with (go_at_call 8; refine (powInt_nonpos _ _ _ (by first | omega | (unfold wrap64; omega))).mono ?_; rintro e w' ⟨rfl, rfl⟩; unfold Fl.one)
    go_ret
    exact ⟨by simp, Grown.refl _⟩
  · go_enter Yba.func4, Yba.ntmps4
    go_wp2_with (go_at_call 8; refine (powInt_nonpos _ _ _ (by omega)).mono ?_; rintro e w' ⟨rfl, rfl⟩; unfold Fl.one)
    go_ret
    exact ⟨by simp, Grown.refl _⟩

theorem pow0 (x : Nat) : powF 0 x Fl.one 0 = some Fl.one := rfl
theorem pow1 (x : Nat) (hx : x < 18446744073709551616) (hn : (double.read x).isNaN = false) : powF 1 x Fl.one 1 = some x := by
  obtain ⟨r, hr, _, _⟩ := Fl.square x hn
  simp [powF, Fl.mul_one_left x hx hn, hr]
theorem pow2 (x r : Nat) (hr : double.mul x x = some r) (hx : r < 18446744073709551616) (hn : (double.read r).isNaN = false) : powF 2 x Fl.one 2 = some r := by
  obtain ⟨q, hq, _, _⟩ := Fl.square r hn
  simp [powF, Fl.mul_one_left r hx hn, hr, hq]

set_option maxHeartbeats 400000 in
theorem low_nan (x : Nat) (w : World) (hn : (double.read x).isNaN = true) :
    Calls Yba.prog 5 #[.float .f64 x] w fun e w' => e = .returned (.bool true) ∧ Grown w w' := by
  have ho : FloatKind.f64.format.order x x = none := Fl.order_self_nan x hn
  go_enter Yba.func5, Yba.ntmps5
  go_wp2
  go_ret
  exact ⟨rfl, Grown.refl _⟩

theorem powInt_zero (x : Nat) (w : World) : Calls Yba.prog 8 #[.float .f64 x, .int .i64 0] w fun e w' => e = .returned (.float .f64 4607182418800017408) ∧ w' = w :=
  powInt_nonpos x 0 w (by omega)
theorem powInt_one (x : Nat) (w : World) (hx : x < 18446744073709551616) (hn : (double.read x).isNaN = false) : Calls Yba.prog 8 #[.float .f64 x, .int .i64 1] w fun e w' => e = .returned (.float .f64 x) ∧ w' = w :=
  powInt_any 1 x 1 x w (by omega) (pow1 x hx hn)
theorem powInt_two (x r : Nat) (w : World) (hr : double.mul x x = some r) (hx : r < 18446744073709551616) (hn : (double.read r).isNaN = false) : Calls Yba.prog 8 #[.float .f64 x, .int .i64 2] w fun e w' => e = .returned (.float .f64 r) ∧ w' = w :=
  powInt_any 2 x 2 r w (by omega) (pow2 x r hr hx hn)

set_option maxHeartbeats 400000 in
theorem low_num (x : Nat) (w : World) (hx : x < 18446744073709551616) (hn : (double.read x).isNaN = false) :
    Calls Yba.prog 5 #[.float .f64 x] w fun e w' => e = .returned (.bool true) ∧ Grown w w' := by
  obtain ⟨r, hr, hr64, hrn⟩ := Fl.square x hn
  have ho : FloatKind.f64.format.order x x = some .eq := Fl.order_self x hn
  have ho1 : FloatKind.f64.format.order 4607182418800017408 4607182418800017408 = some .eq := one_self
  have ho2 : FloatKind.f64.format.order r r = some .eq := Fl.order_self r hrn
  have m2 := mul_run 22 _ _ _ hr
  have c0 := powInt_zero x
  have c1 := fun w => powInt_one x w hx hn
  have c2 := fun w => powInt_two x r w hr hr64 hrn
  have H0 : Hid (∀ w, Calls Yba.prog 8 #[.float .f64 x, .int .i64 0] w fun e w' => e = .returned (.float .f64 4607182418800017408) ∧ w' = w) := c0
  have H1 : Hid (∀ w, Calls Yba.prog 8 #[.float .f64 x, .int .i64 1] w fun e w' => e = .returned (.float .f64 x) ∧ w' = w) := c1
  have H2 : Hid (∀ w, Calls Yba.prog 8 #[.float .f64 x, .int .i64 2] w fun e w' => e = .returned (.float .f64 r) ∧ w' = w) := c2
  clear hr hr64 hrn c0 c1 c2 hx hn
  go_enter Yba.func5, Yba.ntmps5
  go_wp2_with (go_at_call 9; go_in)
  refine (H0.out _).mono ?_
  rintro e w' ⟨rfl, rfl⟩
  go_wp2_with fail
  refine (H1.out _).mono ?_
  rintro e w' ⟨rfl, rfl⟩
  go_wp2_with fail
  refine (H2.out _).mono ?_
  rintro e w' ⟨rfl, rfl⟩
  go_wp2_with fail
  go_ret
  exact ⟨by simp, Grown.refl _⟩
end Go.Proofs.Ybulkife
