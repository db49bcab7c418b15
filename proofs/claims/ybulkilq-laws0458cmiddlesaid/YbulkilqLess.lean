/-
  Whole numbers of a small range as float64 cells; cmp.Less[float64] at them.
-/
import Derived.Test.YbulkilqProg
import Derived.Test.YbulkilqFloat
import Derived.WalkKit
import Derived.Laws.Cover2
import Derived.Sort.Row
namespace Go.Proofs.Ybulkilq
set_option linter.unusedVariables false
set_option linter.unusedSimpArgs false
open Go.RowKit Ieee Go.Sort

theorem run_store_float (P : Program) (w : World) (a : Addr) (m : Mode) (k : FloatKind) (b : Nat) : (store a (.float k b) m).run P w = stored P w a (.float k b) m := run_store P w a _ m rfl

/-- Held within -40000 .. 40000. -/
def cl (z : Int) : Int := max (-40000) (min 40000 z)
theorem cl_bd (z : Int) : -40000 ≤ cl z ∧ cl z ≤ 40000 := by unfold cl; omega
theorem cl_in (z : Int) (h0 : -40000 ≤ z) (h1 : z ≤ 40000) : cl z = z := by unfold cl; omega

/-- The word of the (held) number. -/
def fb (z : Int) : Nat := Fl.F (cl z)
abbrev encF : Int → Value := fun z => Value.float .f64 (fb z)
def ltC (x y : Int) : Bool := decide (cl x < cl y)

theorem order_fb (x y : Int) : double.order (fb x) (fb y) = some (compare (cl x) (cl y)) := by
  have := cl_bd x
  have := cl_bd y
  exact Fl.order_F _ _ (by omega) (by omega) (by omega) (by omega)

theorem order_fb_self (x : Int) : FloatKind.f64.format.order (fb x) (fb x) = some .eq := by
  have h := order_fb x x
  rw [Int.compare_eq_eq.2 rfl] at h
  exact h

theorem order_fb_lt (x y : Int) : (FloatKind.f64.format.order (fb x) (fb y) == some .lt) = ltC x y := by
  have h := order_fb x y
  rw [show FloatKind.f64.format = double from rfl, h]
  unfold ltC
  rcases Int.lt_trichotomy (cl x) (cl y) with k | k | k
  · rw [Int.compare_eq_lt.2 k, decide_eq_true k]; rfl
  · rw [Int.compare_eq_eq.2 k, decide_eq_false (by omega)]; rfl
  · rw [Int.compare_eq_gt.2 k, decide_eq_false (by omega)]; rfl

theorem swo_ltC : SWO ltC where
  irrefl := fun x => by simp [ltC]
  trans := fun x y z h1 h2 => by simp [ltC] at *; omega
  ntrans := fun x y z h1 h2 => by simp [ltC] at *; omega

theorem isNaN_f (x : Int) (w : World) : Calls Yba.prog 28 #[.float .f64 (fb x)] w fun e w' => e = .returned (.bool false) ∧ w' = w := by
  have o := order_fb_self x
  go_enter Yba.func28, Yba.ntmps28
  go_wp2
  go_ret
  exact ⟨by simp, rfl⟩

set_option maxHeartbeats 400000 in
theorem less_f (x y : Int) (w : World) : Calls Yba.prog 18 #[.float .f64 (fb x), .float .f64 (fb y)] w fun e w' => e = .returned (.bool (ltC x y)) ∧ w' = w := by
  have o := order_fb_lt x y
  go_enter Yba.func18, Yba.ntmps18
  go_wp2_with (go_at_call 28; refine (isNaN_f _ _).mono ?_; rintro e w' ⟨rfl, rfl⟩)
  go_ret
  exact ⟨by simp, rfl⟩

/-- The cells' values, over a letter for the words (so that nothing unfolds them). -/
abbrev encOf (fb : Int → Nat) : Int → Value := fun z => Value.float .f64 (fb z)
/-- cmp.Less[float64] at such words answers by the order. -/
def LessF (fb : Int → Nat) (ltq : Int → Int → Bool) : Prop :=
  ∀ (x y : Int) (w : World), Calls Yba.prog 18 #[.float .f64 (fb x), .float .f64 (fb y)] w fun e w' => e = .returned (.bool (ltq x y)) ∧ w' = w
theorem lessF : LessF fb ltC := less_f
end Go.Proofs.Ybulkilq
