/-
  The law on small powers: the plain law by the kernel's reckoning at all 17 * 18 inputs; the walk of the law's own loop.
-/
import Derived.Test.YbulkifePow
namespace Go.Proofs.Ybulkife
open Go.RowKit Ieee

def exactAt (a b : Nat) : Bool :=
  match powF 6 (floatOfInt .f64 ((a : Int) - 8)) Fl.one b with
  | some v => double.order v (floatOfInt .f64 (((a : Int) - 8) ^ b)) == some .eq
  | none => false

theorem exact_all : ((List.range 17).all fun a => (List.range 18).all fun b => exactAt a b) = true := by decide +kernel

theorem exact_one (a b : Nat) (ha : a < 17) (hb : b < 18) : ∃ v, powF 6 (floatOfInt .f64 ((a : Int) - 8)) Fl.one b = some v ∧ double.order v (floatOfInt .f64 (((a : Int) - 8) ^ b)) = some .eq := by
  have h := exact_all
  simp only [List.all_eq_true, List.mem_range] at h
  have h := h a ha b hb
  unfold exactAt at h
  split at h
  · rename_i v hv
    exact ⟨v, hv, by simpa using h⟩
  · cases h

def smallAt (a b : Nat) : Bool := decide (-4503599627370496 ≤ ((a : Int) - 8) ^ b) && decide (((a : Int) - 8) ^ b ≤ 4503599627370496)
theorem small_all : ((List.range 17).all fun a => (List.range 18).all fun b => smallAt a b) = true := by decide +kernel
theorem small_one (a b : Nat) (ha : a < 17) (hb : b < 18) : -4503599627370496 ≤ ((a : Int) - 8) ^ b ∧ ((a : Int) - 8) ^ b ≤ 4503599627370496 := by
  have h := small_all
  simp only [List.all_eq_true, List.mem_range] at h
  have h := h a ha b hb
  simpa [smallAt] using h

set_option maxHeartbeats 400000 in
theorem exact_walk (a b : Nat) (w : World) (ha : a ≤ 255) (hb : b ≤ 255) :
    Calls Yba.prog 3 #[.int .u8 a, .int .u8 b] w fun e w' => e = .returned (.bool true) ∧ Grown w w' := by
  have ha17 : a % 17 < 17 := Nat.mod_lt _ (by omega)
  have hb18 : b % 18 < 18 := Nat.mod_lt _ (by omega)
  obtain ⟨v, hv, ho⟩ := exact_one (a % 17) (b % 18) ha17 hb18
  have HP : Hid (∀ j, j < 18 → -4503599627370496 ≤ (((a % 17 : Nat) : Int) - 8) ^ j ∧ (((a % 17 : Nat) : Int) - 8) ^ j ≤ 4503599627370496) := fun j hj => small_one _ _ ha17 hj
  have HV : Hid (powF 6 (floatOfInt .f64 (((a % 17 : Nat) : Int) - 8)) Fl.one (b % 18) = some v) := hv
  have HO : Hid (double.order v (floatOfInt .f64 ((((a % 17 : Nat) : Int) - 8) ^ (b % 18))) = some .eq) := ho
  clear hv ho
  go_enter Yba.func3, Yba.ntmps3
  go_wp2_with fail
  have e1 : (a : Int) % 17 - 8 = ((a % 17 : Nat) : Int) - 8 := by omega
  have e2 : (b : Int) % 18 = ((b % 18 : Nat) : Int) := by omega
  rw [e1, e2]
  clear e1 e2
  have hx1 : -8 ≤ ((a % 17 : Nat) : Int) - 8 := by omega
  have hx2 : ((a % 17 : Nat) : Int) - 8 ≤ 8 := by omega
  clear ha17
  generalize ((a % 17 : Nat) : Int) - 8 = x at HP HV HO hx1 hx2
  generalize b % 18 = k at hb18 HV HO
  go_loop [7, 8] (fun vr vi => ∃ j : Nat, j ≤ k ∧ vi = .int .i64 j ∧ vr = .int .i64 (x ^ j)) (fun _ vi => k - (intOf vi).toNat)
  case atStart => exact ⟨0, Nat.zero_le _, rfl, by rw [Int.pow_zero]⟩
  case round =>
    obtain ⟨j, hj, rfl, rfl⟩ := hrel
    by_cases hlt : j < k
    · have b1 := HP.out (j + 1) (by omega)
      rw [Int.pow_succ] at b1
      obtain ⟨b1, b2⟩ := b1
      have HS : Hid (x ^ (j + 1) = x ^ j * x) := Int.pow_succ _ _
      generalize x ^ j = p at b1 b2 HS
      have hlt' : (j : Int) < (k : Int) := by omega
      go_wp2
      go_round
      case rel => exact ⟨j + 1, by omega, by go_num, by rw [HS.out]⟩
      case measure => simp [intOf]; omega
    · have hjk : j = k := by omega
      subst hjk
      go_wp2_with fail
      refine (powInt_any 6 _ _ v _ (by omega) HV.out).mono ?_
      rintro e w' ⟨rfl, rfl⟩
      have ho : (FloatKind.f64.format.order v (floatOfInt .f64 (x ^ j)) == some .eq) = true := by
        rw [show FloatKind.f64.format = double from rfl, HO.out]; rfl
      go_wp2_with fail
      go_ret
      exact ⟨rfl, Grown.refl _⟩
end Go.Proofs.Ybulkife
