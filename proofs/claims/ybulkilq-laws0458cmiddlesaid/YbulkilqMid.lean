/-
  middle[float64] and median over slices.Sort's contract.
-/
import Derived.Test.YbulkilqLess
import Derived.Laws.FloatArith
import Derived.BigQuiet
namespace Go.Proofs.Ybulkilq
set_option linter.unusedVariables false
set_option linter.unusedSimpArgs false
open Go.RowKit

/-- The row's cells hold these words. -/
def Words (g : Nat → Nat) (n blk : Nat) (w : World) : Prop := ∀ j, j < n → w.cell? ⟨blk, j, none⟩ = some (.float .f64 (g j))
/-- slices.Sort at this row in this world leaves these words. -/
def SortAt (g : Nat → Nat) (n blk cap : Nat) (w : World) : Prop :=
  Calls Yba.prog 9 #[.slice (some ⟨blk, 0, none⟩) n cap] w fun e w' => e = .returned (.tuple #[]) ∧ Words g n blk w' ∧ Below blk w w'

theorem below_drewN {B : Nat} {a w : World} (h : Below B a w) (q : Nat) : Below B a (w.drewN q) := ⟨h.os, h.tape, h.output, h.size, h.block⟩

set_option maxRecDepth 100000 in
theorem middle_walk (g : Nat → Nat) (n blk cap : Nat) (w : World) (hpos : 0 < n) (hn : n ≤ 1024) (hS : SortAt g n blk cap w) :
    Calls Yba.prog 8 #[.slice (some ⟨blk, 0, none⟩) n cap] w fun e w' =>
      e = .returned (.tuple #[.float .f64 (g ((n - 1) / 2)), .float .f64 (g (n / 2))]) ∧ Words g n blk w' ∧ Below blk w w' := by
  go_enter Yba.func8, Yba.ntmps8
  go_wp2_with (go_at_call 9; refine Calls.mono hS ?_; rintro e w' ⟨rfl, hc, hB⟩)
  have hc1 : w'.cell? ⟨blk, (n - 1) / 2, none⟩ = some (.float .f64 (g ((n - 1) / 2))) := hc _ (by omega)
  have hc2 : w'.cell? ⟨blk, n / 2, none⟩ = some (.float .f64 (g (n / 2))) := hc _ (by omega)
  go_quiet (fail)
  go_wp2
  go_ret2
  exact ⟨rfl, hc, below_drewN hB _⟩

theorem add_run (t : TypeId) (a b r : Nat) (h : Ieee.double.add a b = some r) (w : World) : (binOp .add t (.float .f64 a) (.float .f64 b)).run Yba.prog w = .ok (.float .f64 r) w :=
  run_float_arith w .add t .f64 a b r h
theorem quo_run (t : TypeId) (a b r : Nat) (h : Ieee.double.div a b = some r) (w : World) : (binOp .quo t (.float .f64 a) (.float .f64 b)).run Yba.prog w = .ok (.float .f64 r) w :=
  run_float_arith w .quo t .f64 a b r h

set_option maxRecDepth 100000 in
/-- An odd count: the middle one. -/
theorem median_odd (g : Nat → Nat) (n blk cap : Nat) (w : World) (hodd : n % 2 = 1) (hn : n ≤ 1024) (hS : SortAt g n blk cap w) :
    Calls Yba.prog 6 #[.slice (some ⟨blk, 0, none⟩) n cap] w fun e w' => e = .returned (.float .f64 (g (n / 2))) ∧ Words g n blk w' ∧ Below blk w w' := by
  have hm := middle_walk g n blk cap w (by omega) hn hS
  rw [show (n - 1) / 2 = n / 2 by omega] at hm
  have hMid : Hid (Calls Yba.prog 8 #[.slice (some ⟨blk, 0, none⟩) n cap] w fun e w' => e = .returned (.tuple #[.float .f64 (g (n / 2)), .float .f64 (g (n / 2))]) ∧ Words g n blk w' ∧ Below blk w w') := hm
  clear hm hS
  have ho : ((n : Int) % 2 == 1) = true := by rw [beq_iff_eq]; omega
  go_enter Yba.func6, Yba.ntmps6
  go_wp2_with (go_at_call 8; refine hMid.out.mono ?_; rintro e w' ⟨rfl, hc, hB⟩)
  all_goals go_ret
  all_goals exact ⟨rfl, hc, hB⟩

set_option maxRecDepth 100000 in
/-- An even count: the mean of the two middle ones. -/
theorem median_even (g : Nat → Nat) (n blk cap s r : Nat) (w : World) (heven : n % 2 = 0) (hpos : 0 < n) (hn : n ≤ 1024) (hS : SortAt g n blk cap w)
    (hadd : Ieee.double.add (g ((n - 1) / 2)) (g (n / 2)) = some s) (hdiv : Ieee.double.div s 4611686018427387904 = some r) :
    Calls Yba.prog 6 #[.slice (some ⟨blk, 0, none⟩) n cap] w fun e w' => e = .returned (.float .f64 r) ∧ Words g n blk w' ∧ Below blk w w' := by
  have hm := middle_walk g n blk cap w (by omega) hn hS
  have hA := fun v => add_run 26 _ _ _ hadd v
  have hD := fun v => quo_run 26 _ _ _ hdiv v
  clear hadd hdiv hS
  generalize g ((n - 1) / 2) = a at hm hA
  generalize g (n / 2) = b at hm hA
  have hMid : Hid (Calls Yba.prog 8 #[.slice (some ⟨blk, 0, none⟩) n cap] w fun e w' => e = .returned (.tuple #[.float .f64 a, .float .f64 b]) ∧ Words g n blk w' ∧ Below blk w w') := hm
  clear hm
  have ho : ((n : Int) % 2 == 1) = false := by rw [beq_eq_false_iff_ne]; omega
  go_enter Yba.func6, Yba.ntmps6
  go_wp2_with (go_at_call 8; refine hMid.out.mono ?_; rintro e w' ⟨rfl, hc, hB⟩)
  all_goals go_ret
  all_goals exact ⟨rfl, hc, hB⟩
end Go.Proofs.Ybulkilq
