/-
  powInt by its contract: it computes the plain function powF (repeated squaring on the words of doubles), where no product is a NaN.
-/
import Derived.Test.YbulkifeProg
import Derived.Test.YbulkifeFloat
import Derived.WalkKit
import Derived.WalkSpells
import Derived.WalkLawsBesides
namespace Go.Proofs.Ybulkife
open Go.RowKit Ieee

def powF : Nat → Nat → Nat → Nat → Option Nat
  | 0, _, p, k => if k = 0 then some p else none
  | f + 1, x, p, k =>
    if k = 0 then some p else
    match (if k % 2 = 1 then double.mul p x else some p), double.mul x x with
    | some p', some x' => powF f x' p' (k / 2)
    | _, _ => none

theorem mul_run (t : TypeId) (a b r : Nat) (h : double.mul a b = some r) (w : World) : (binOp .mul t (.float .f64 a) (.float .f64 b)).run Yba.prog w = .ok (.float .f64 r) w :=
  run_float_arith w .mul t .f64 a b r h

/-- 'k & 1' on an int that is not negative. -/
theorem and_one_i64 (k : Nat) (h : k ≤ 9223372036854775807) : bits .and .i64 (k : Int) 1 = ((k % 2 : Nat) : Int) := by
  have h1 : (BitVec.ofInt 64 (k : Int)).toNat = k := by
    rw [BitVec.ofInt_natCast, BitVec.toNat_ofNat]; exact Nat.mod_eq_of_lt (by omega)
  have h2 : (BitVec.ofInt 64 1).toNat = 1 := by decide
  show IntKind.i64.wrap ((BitVec.ofInt 64 (k : Int) &&& BitVec.ofInt 64 1).toNat : Int) = _
  rw [BitVec.toNat_and, h1, h2, Nat.and_one_is_mod]
  rw [IntKind.wrap_i64]
  omega

theorem powInt_nonpos (x : Nat) (k : Int) (w : World) (hk : k ≤ 0) :
    Calls Yba.prog 8 #[.float .f64 x, .int .i64 k] w fun e w' => e = .returned (.float .f64 Fl.one) ∧ w' = w := by
  go_enter Yba.func8, Yba.ntmps8
  go_wp2
  refine wp_loop_rounds 1 ?_
  rw [rounds_succ]
  go_wp2
  go_ret
  exact ⟨rfl, rfl⟩

set_option maxHeartbeats 400000 in
theorem powInt_any (fuel x k r : Nat) (w : World) (hk : k ≤ 9223372036854775807) (hr : powF fuel x Fl.one k = some r) :
    Calls Yba.prog 8 #[.float .f64 x, .int .i64 k] w fun e w' => e = .returned (.float .f64 r) ∧ w' = w := by
  go_enter Yba.func8, Yba.ntmps8
  go_wp2
  go_loop [0, 1, 5] (fun vx vk vp => ∃ f x p k : Nat, k ≤ 9223372036854775807 ∧ vx = .float .f64 x ∧ vk = .int .i64 k ∧ vp = .float .f64 p ∧ powF f x p k = some r) (fun _ vk _ => (intOf vk).toNat)
  case atStart => exact ⟨fuel, x, Fl.one, k, hk, rfl, rfl, rfl, hr⟩
  case round =>
    clear hr hk
    obtain ⟨f, x, p, k, hk, rfl, rfl, rfl, hr⟩ := hrel
    by_cases h0 : k = 0
    · subst h0
      have hp : p = r := by cases f <;> simpa [powF] using hr
      clear hr
      subst hp
      go_wp2
      go_ret
      exact ⟨rfl, rfl⟩
    · have hpos : (0 : Int) < (k : Int) := by omega
      cases f with
      | zero => simp [powF, h0] at hr
      | succ f =>
      by_cases hodd : k % 2 = 1
      · have hb : (bits .and .i64 (k : Int) 1 == 1) = true := by rw [and_one_i64 k hk, hodd]; rfl
        simp only [powF, if_neg h0, if_pos hodd] at hr
        cases hm : double.mul p x with
        | none => rw [hm] at hr; simp at hr
        | some p' =>
        cases hx : double.mul x x with
        | none => rw [hm, hx] at hr; simp at hr
        | some x' =>
        rw [hm, hx] at hr
        have m1 := mul_run 22 _ _ _ hm
        have m2 := mul_run 22 _ _ _ hx
        have HR : Hid (powF f x' p' (k / 2) = some r) := hr
        clear hr hm hx h0 hodd
        go_wp2
        go_round
        case rel => exact ⟨f, x', p', k / 2, by omega, rfl, by go_num, rfl, HR.out⟩
        case measure => simp [intOf]; omega
      · have hb : (bits .and .i64 (k : Int) 1 == 1) = false := by
          rw [and_one_i64 k hk, show k % 2 = 0 by omega]; rfl
        simp only [powF, if_neg h0, if_neg hodd] at hr
        cases hx : double.mul x x with
        | none => rw [hx] at hr; simp at hr
        | some x' =>
        rw [hx] at hr
        have m2 := mul_run 22 _ _ _ hx
        have HR : Hid (powF f x' p (k / 2) = some r) := hr
        clear hr hx h0 hodd
        go_wp2
        go_round
        case rel => exact ⟨f, x', p, k / 2, by omega, rfl, by go_num, rfl, HR.out⟩
        case measure => simp [intOf]; omega
end Go.Proofs.Ybulkife
