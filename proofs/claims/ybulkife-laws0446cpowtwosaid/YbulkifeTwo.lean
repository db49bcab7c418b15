/-
  twoSum and twoFloat.mul by their contracts, on the words of doubles.
-/
import Derived.Test.YbulkifePow
import Derived.Deep.RegionHeld3
import Derived.Deep.DrawnRows
namespace Go.Proofs.Ybulkife
set_option linter.unusedVariables false
set_option linter.unusedSimpArgs false
open Go.RowKit Ieee

theorem run_store_float (P : Program) (w : World) (a : Addr) (m : Mode) (k : FloatKind) (b : Nat) : (store a (.float k b) m).run P w = stored P w a (.float k b) m := run_store P w a _ m rfl
attribute [local go_sem] run_store_float

theorem add_run (t : TypeId) (a b r : Nat) (h : double.add a b = some r) (w : World) : (binOp .add t (.float .f64 a) (.float .f64 b)).run Yba.prog w = .ok (.float .f64 r) w :=
  run_float_arith w .add t .f64 a b r h
theorem sub_run (t : TypeId) (a b r : Nat) (h : double.sub a b = some r) (w : World) : (binOp .sub t (.float .f64 a) (.float .f64 b)).run Yba.prog w = .ok (.float .f64 r) w :=
  run_float_arith w .sub t .f64 a b r h

/-- twoSum on words: s = a + b, bb = s - a, (a - (s - bb)) + (b - bb). -/
structure TwoSum (a b s lo : Nat) where
  bb : Nat
  c1 : Nat
  c2 : Nat
  c3 : Nat
  h1 : double.add a b = some s
  h2 : double.sub s a = some bb
  h3 : double.sub s bb = some c1
  h4 : double.sub a c1 = some c2
  h5 : double.sub b bb = some c3
  h6 : double.add c2 c3 = some lo

set_option maxHeartbeats 400000 in
theorem twoSum_any (a b s lo : Nat) (w : World) (h : TwoSum a b s lo) :
    Calls Yba.prog 30 #[.float .f64 a, .float .f64 b] w fun e w' => e = .returned (.agg #[.float .f64 s, .float .f64 lo]) ∧ Below w.heap.size w w' := by
  obtain ⟨bb, c1, c2, c3, h1, h2, h3, h4, h5, h6⟩ := h
  have r1 := add_run 22 _ _ _ h1
  have r2 := sub_run 22 _ _ _ h2
  have r3 := sub_run 22 _ _ _ h3
  have r4 := sub_run 22 _ _ _ h4
  have r5 := sub_run 22 _ _ _ h5
  have r6 := add_run 22 _ _ _ h6
  clear h1 h2 h3 h4 h5 h6
  go_enter Yba.func30, Yba.ntmps30
  go_wp2
  refine bodyPost_ret (v := .agg #[.float .f64 s, .float .f64 lo]) (by simp [results, Yba.results30, go_sem]) rfl ⟨rfl, ?_⟩
  exact (Below.refl _ _).alloc (Nat.le_refl _) _

theorem call29 (args : Array Value) (w : World) : (callFunc 29 args).run Yba.prog w = ((Extern.MathFMA.fma args).run Yba.prog w).andThen fun v w' => .ok (.value v) w' :=
  run_callFunc_extern Yba.func29 (by kernel_rfl) (by kernel_rfl) (by kernel_rfl) (by kernel_rfl) args w
theorem call24 (args : Array Value) (w : World) : (callFunc 24 args).run Yba.prog w = ((Extern.MathFloatBits.float64bits args).run Yba.prog w).andThen fun v w' => .ok (.value v) w' :=
  run_callFunc_extern Yba.func24 (by kernel_rfl) (by kernel_rfl) (by kernel_rfl) (by kernel_rfl) args w
theorem call26 (args : Array Value) (w : World) : (callFunc 26 args).run Yba.prog w = ((Extern.MathFloatBits.float64frombits args).run Yba.prog w).andThen fun v w' => .ok (.value v) w' :=
  run_callFunc_extern Yba.func26 (by kernel_rfl) (by kernel_rfl) (by kernel_rfl) (by kernel_rfl) args w
theorem fma_run (x y z r : Nat) (h : double.fma x y z = some r) (w : World) : (Extern.MathFMA.fma #[.float .f64 x, .float .f64 y, .float .f64 z]).run Yba.prog w = .ok (.float .f64 r) w := by
  change Sem.run Yba.prog (match double.fma x y z with | some r => (pure (Value.float .f64 r) : Sem Value) | none => _) w = _
  rw [h]
  rfl
theorem bits_run (b : Nat) (w : World) : (Extern.MathFloatBits.float64bits #[.float .f64 b]).run Yba.prog w = .ok (.int .u64 b) w := rfl
theorem frombits_run (n : Int) (w : World) : (Extern.MathFloatBits.float64frombits #[.int .u64 n]).run Yba.prog w = .ok (.float .f64 n.toNat) w := rfl

/-- '-x' on words. -/
def negW (b : Nat) : Nat := Op.negFloat .f64 b
theorem neg_run (b : Nat) : Op.unary .neg (.float .f64 b) = pure (.float .f64 (negW b)) := rfl

structure TfMul (h1 l1 h2 l2 h l : Nat) where
  p : Nat
  e : Nat
  m1 : Nat
  a1 : Nat
  m2 : Nat
  a2 : Nat
  k1 : double.mul h1 h2 = some p
  k2 : double.fma h1 h2 (negW p) = some e
  k3 : double.mul h1 l2 = some m1
  k4 : double.add e m1 = some a1
  k5 : double.mul l1 h2 = some m2
  k6 : double.add a1 m2 = some a2
  k7 : TwoSum p a2 h l

attribute [local go_sem] call29 neg_run
set_option maxHeartbeats 400000 in
theorem tfMul_any (h1 l1 h2 l2 h l : Nat) (w : World) (k : TfMul h1 l1 h2 l2 h l) :
    Calls Yba.prog 21 #[.agg #[.float .f64 h1, .float .f64 l1], .agg #[.float .f64 h2, .float .f64 l2]] w fun e w' => e = .returned (.agg #[.float .f64 h, .float .f64 l]) ∧ Below w.heap.size w w' := by
  obtain ⟨p, e, m1, a1, m2, a2, k1, k2, k3, k4, k5, k6, k7⟩ := k
  have r1 := mul_run 22 _ _ _ k1
  have r2 := fma_run _ _ _ _ k2
  have r3 := mul_run 22 _ _ _ k3
  have r4 := add_run 22 _ _ _ k4
  have r5 := mul_run 22 _ _ _ k5
  have r6 := add_run 22 _ _ _ k6
  clear k1 k2 k3 k4 k5 k6
  go_enter Yba.func21, Yba.ntmps21
  go_wp2_with fail
  refine (twoSum_any _ _ _ _ _ k7).mono ?_
  rintro e w1 ⟨rfl, hb⟩
  clear r1 r2 r3 r4 r5 r6
  have hsz := hb.size
  have c2 := hb.cell (p := ⟨w.heap.size + 1 + 1, 0, none⟩) (by simp)
  have c3 := hb.cell (p := ⟨w.heap.size + 1 + 1, 1, none⟩) (by simp)
  have f2 := hb.frozen (p := ⟨w.heap.size + 1 + 1, 0, none⟩) (by simp)
  have f3 := hb.frozen (p := ⟨w.heap.size + 1 + 1, 1, none⟩) (by simp)
  simp [go_sem] at c2 c3 f2 f3 hsz
  go_wp2_with fail
  refine bodyPost_ret (v := .agg #[.float .f64 h, .float .f64 l]) (by simp [results, Yba.results21, go_sem, c2, c3]) rfl ⟨rfl, ?_⟩
  have b0 : Below w.heap.size w w1 := (((((Below.refl _ w).alloc (Nat.le_refl _) _).alloc (by simp) _).alloc (by simp; omega) _).trans (hb.mono (by simp; omega)))
  exact (b0.setCell (by simp; omega) _).setCell (by simp; omega) _
end Go.Proofs.Ybulkife
