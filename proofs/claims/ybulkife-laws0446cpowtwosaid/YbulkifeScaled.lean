/-
  scaled.mul by its contract.
-/
import Derived.Test.YbulkifeNorm
namespace Go.Proofs.Ybulkife
set_option linter.unusedVariables false
set_option linter.unusedSimpArgs false
open Go.RowKit Ieee
attribute [local go_sem] run_store_float

/-- What normalized does, as a relation on (hi, lo, exp): said of the call itself. -/
def NormTo (h l : Nat) (x : Int) (h' l' : Nat) (x' : Int) : Prop :=
  ∀ w, Calls Yba.prog 13 #[.agg #[.float .f64 h, .float .f64 l], .int .i64 x] w fun e w' => e = .returned (.agg #[.float .f64 h', .float .f64 l', .int .i64 x']) ∧ Below w.heap.size w w'

/-- Three cells of a block that may be written. -/
def Box3 (b : Nat) (u0 u1 u2 : Value) (w : World) : Prop :=
  b < w.heap.size ∧ w.cell? ⟨b, 0, none⟩ = some u0 ∧ w.cell? ⟨b, 1, none⟩ = some u1 ∧ w.cell? ⟨b, 2, none⟩ = some u2 ∧
  w.frozen? ⟨b, 0, none⟩ = false ∧ w.frozen? ⟨b, 1, none⟩ = false ∧ w.frozen? ⟨b, 2, none⟩ = false

theorem Box3.belowN {b B : Nat} {u0 u1 u2 : Value} {w w' : World} (h : Box3 b u0 u1 u2 w) (hb : b < B) (k : Below B w w') : Box3 b u0 u1 u2 w' := by
  obtain ⟨h0, c0, c1, c2, f0, f1, f2⟩ := h
  have hs := k.size
  refine ⟨by omega, ?_, ?_, ?_, ?_, ?_, ?_⟩
  · rw [k.cell (p := ⟨b, 0, none⟩) hb]; exact c0
  · rw [k.cell (p := ⟨b, 1, none⟩) hb]; exact c1
  · rw [k.cell (p := ⟨b, 2, none⟩) hb]; exact c2
  · rw [k.frozen (p := ⟨b, 0, none⟩) hb]; exact f0
  · rw [k.frozen (p := ⟨b, 1, none⟩) hb]; exact f1
  · rw [k.frozen (p := ⟨b, 2, none⟩) hb]; exact f2

theorem Box3.below {b : Nat} {u0 u1 u2 : Value} {w w' : World} (h : Box3 b u0 u1 u2 w) (k : Below w.heap.size w w') : Box3 b u0 u1 u2 w' := h.belowN h.1 k

theorem Box3.set {b c : Nat} {u0 u1 u2 : Value} {w : World} (h : Box3 b u0 u1 u2 w) (hc : b < c) (i : Nat) (v : Value) : Box3 b u0 u1 u2 (w.setCell ⟨c, i, none⟩ v) :=
  h.belowN (B := b + 1) (by omega) ((Below.refl _ _).setCell (p := ⟨c, i, none⟩) hc v)

theorem Box3.new (w : World) (u0 u1 u2 : Value) (t : TypeId) : Box3 w.heap.size u0 u1 u2 (w.alloc (.cells #[u0, u1, u2] t)) := by
  refine ⟨by simp, ?_, ?_, ?_, ?_, ?_, ?_⟩ <;> simp [go_sem]

theorem Box3.drew {b : Nat} {u0 u1 u2 : Value} {w : World} (h : Box3 b u0 u1 u2 w) : Box3 b u0 u1 u2 w.drew := h

theorem six {b c : Nat} {u0 u1 u2 v0 v1 v2 : Value} {w : World} (h : Box3 b u0 u1 u2 w) (k : Box3 c v0 v1 v2 w) :
    w.cell? ⟨b, 0, none⟩ = some u0 ∧ w.cell? ⟨b, 1, none⟩ = some u1 ∧ w.cell? ⟨b, 2, none⟩ = some u2 ∧ w.cell? ⟨c, 0, none⟩ = some v0 ∧ w.cell? ⟨c, 1, none⟩ = some v1 ∧ w.cell? ⟨c, 2, none⟩ = some v2 :=
  ⟨h.2.1, h.2.2.1, h.2.2.2.1, k.2.1, k.2.2.1, k.2.2.2.1⟩

set_option maxHeartbeats 400000 in
theorem smul_any (h1 l1 h2 l2 h l h' l' : Nat) (x1 x2 x' : Int) (w : World) (k : TfMul h1 l1 h2 l2 h l)
    (hx0 : -4611686018427387904 ≤ x1 + x2) (hx1 : x1 + x2 ≤ 4611686018427387904) (hn : NormTo h l (x1 + x2) h' l' x') :
    Calls Yba.prog 14 #[.agg #[.float .f64 h1, .float .f64 l1, .int .i64 x1], .agg #[.float .f64 h2, .float .f64 l2, .int .i64 x2]] w fun e w' =>
      e = .returned (.agg #[.float .f64 h', .float .f64 l', .int .i64 x']) ∧ Below w.heap.size w w' := by
  have HN : Hid (NormTo h l (x1 + x2) h' l' x') := hn
  have HW : Hid (IntKind.i64.wrap (x1 + x2) = x1 + x2) := by
    show IntKind.i64.wrap (x1 + x2) = x1 + x2
    rw [IntKind.wrap_i64]; omega
  clear hn hx0 hx1
  go_enter Yba.func14, Yba.ntmps14
  go_wp2_with fail
  have b0 := Box3.new w (.float .f64 h1) (.float .f64 l1) (.int .i64 x1) 31
  have b1 := Box3.new (w.alloc (.cells #[.float .f64 h1, .float .f64 l1, .int .i64 x1] 31)) (.float .f64 h2) (.float .f64 l2) (.int .i64 x2) 31
  have b2 := Box3.new ((w.alloc (.cells #[.float .f64 h1, .float .f64 l1, .int .i64 x1] 31)).alloc (.cells #[.float .f64 h2, .float .f64 l2, .int .i64 x2] 31)) (.float .f64 0) (.float .f64 0) (.int .i64 0) 31
  have e1 : Below (w.alloc (.cells #[.float .f64 h1, .float .f64 l1, .int .i64 x1] 31)).heap.size (w.alloc (.cells #[.float .f64 h1, .float .f64 l1, .int .i64 x1] 31)) ((w.alloc (.cells #[.float .f64 h1, .float .f64 l1, .int .i64 x1] 31)).alloc (.cells #[.float .f64 h2, .float .f64 l2, .int .i64 x2] 31)) := (Below.refl _ _).alloc (Nat.le_refl _) _
  have e2 := (Below.refl _ ((w.alloc (.cells #[.float .f64 h1, .float .f64 l1, .int .i64 x1] 31)).alloc (.cells #[.float .f64 h2, .float .f64 l2, .int .i64 x2] 31))).alloc (Nat.le_refl _) (.cells #[.float .f64 0, .float .f64 0, .int .i64 0] 31)
  have b0' := (b0.below e1).below e2
  have b1' := b1.below e2
  have e3 : Below w.heap.size w (((w.alloc (.cells #[.float .f64 h1, .float .f64 l1, .int .i64 x1] 31)).alloc (.cells #[.float .f64 h2, .float .f64 l2, .int .i64 x2] 31)).alloc (.cells #[.float .f64 0, .float .f64 0, .int .i64 0] 31)) := (((Below.refl _ w).alloc (Nat.le_refl _) _).alloc (by simp) _).alloc (by simp; omega) _
  clear b0 b1 e1 e2
  generalize (((w.alloc (.cells #[.float .f64 h1, .float .f64 l1, .int .i64 x1] 31)).alloc (.cells #[.float .f64 h2, .float .f64 l2, .int .i64 x2] 31)).alloc (.cells #[.float .f64 0, .float .f64 0, .int .i64 0] 31)) = W at *
  simp only [World.size_alloc] at b1' b2
  go_region_held3 (fun v => v.cell? ⟨w.heap.size, 0, none⟩ = some (.float .f64 h1) ∧ v.cell? ⟨w.heap.size, 1, none⟩ = some (.float .f64 l1) ∧ v.cell? ⟨w.heap.size, 2, none⟩ = some (.int .i64 x1)
      ∧ v.cell? ⟨w.heap.size + 1, 0, none⟩ = some (.float .f64 h2) ∧ v.cell? ⟨w.heap.size + 1, 1, none⟩ = some (.float .f64 l2) ∧ v.cell? ⟨w.heap.size + 1, 2, none⟩ = some (.int .i64 x2))
    (first | with_reducible exact six ((((b0'.drew.below hb1).below hb2).set (by omega) _ _).set (by omega) _ _ |>.set (by omega) _ _) ((((b1'.drew.below hb1).below hb2).set (by omega) _ _).set (by omega) _ _ |>.set (by omega) _ _) | with_reducible exact six b0'.drew b1'.drew | with_reducible exact six (b0'.drew.below hb1) (b1'.drew.below hb1) | with_reducible exact six ((b0'.drew.below hb1).below hb2) ((b1'.drew.below hb1).below hb2))
    (first
      | (go_at_call 21; refine (tfMul_any h1 l1 h2 l2 h l _ k).mono ?_; rintro e w1 ⟨rfl, hb1⟩)
      | (go_at_call 13; rw [HW.out]; refine (HN.out _).mono ?_; rintro e w2 ⟨rfl, hb2⟩; obtain ⟨_, z0, z1, z2, y0, y1, y2⟩ := (b2.drew.below hb1).below hb2))
  go_wp2_with fail
  refine bodyPost_ret (v := .agg #[.float .f64 h', .float .f64 l', .int .i64 x']) (by simp [results, Yba.results14, go_sem, z0, z1, z2]) rfl ⟨rfl, ?_⟩
  have s1 := hb1.size
  have s0 := e3.size
  have eW : Below w.heap.size w w1 := e3.trans (Below.drew (Below.refl _ _) |>.trans (hb1.mono s0))
  have f0 : Below w.heap.size w w2 := eW.trans (hb2.mono eW.size)
  exact ((f0.setCell (by simp; omega) _).setCell (by simp; omega) _).setCell (by simp; omega) _
end Go.Proofs.Ybulkife
