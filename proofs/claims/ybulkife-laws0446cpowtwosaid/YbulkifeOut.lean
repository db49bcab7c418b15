/-
  twoFloat.ldexp, normalized out of range, and zzs0446clog2 at powers of two.
-/
import Derived.Test.YbulkifeMath
import Derived.Test.YbulkifeSPow
namespace Go.Proofs.Ybulkife
set_option linter.unusedVariables false
set_option linter.unusedSimpArgs false
open Go.RowKit Ieee
attribute [local go_sem] run_store_float

set_option maxHeartbeats 400000 in
theorem tfLdexp_W (u v : Nat) (k : Int) (w : World) (h1 : 1 ≤ u) (h2 : u ≤ 2046) (v1 : 1 ≤ v) (v2 : v ≤ 2046) (hk : (v : Int) - u = k) :
    Calls Yba.prog 20 #[.agg #[.float .f64 (Fl.W u), .float .f64 0], .int .i64 k] w fun e w' => e = .returned (.agg #[.float .f64 (Fl.W v), .float .f64 0]) ∧ Below w.heap.size w w' := by
  have HK : Hid ((v : Int) - u = k) := hk
  clear hk
  go_enter Yba.func20, Yba.ntmps20
  go_wp2_with fail
  have c0 : ((w.alloc (.cells #[.float .f64 (Fl.W u), .float .f64 0] 29)).alloc (.cells #[.float .f64 0, .float .f64 0] 29)).cell? ⟨w.heap.size, 0, none⟩ = some (.float .f64 (Fl.W u)) := by simp [go_sem]
  have c1 : ((w.alloc (.cells #[.float .f64 (Fl.W u), .float .f64 0] 29)).alloc (.cells #[.float .f64 0, .float .f64 0] 29)).cell? ⟨w.heap.size, 1, none⟩ = some (.float .f64 0) := by simp [go_sem]
  have d0 : ((w.alloc (.cells #[.float .f64 (Fl.W u), .float .f64 0] 29)).alloc (.cells #[.float .f64 0, .float .f64 0] 29)).cell? ⟨w.heap.size + 1, 0, none⟩ = some (.float .f64 0) := by simp [go_sem]
  have d1 : ((w.alloc (.cells #[.float .f64 (Fl.W u), .float .f64 0] 29)).alloc (.cells #[.float .f64 0, .float .f64 0] 29)).cell? ⟨w.heap.size + 1, 1, none⟩ = some (.float .f64 0) := by simp [go_sem]
  have f0 : ((w.alloc (.cells #[.float .f64 (Fl.W u), .float .f64 0] 29)).alloc (.cells #[.float .f64 0, .float .f64 0] 29)).frozen? ⟨w.heap.size + 1, 0, none⟩ = false := by simp [go_sem]
  have f1 : ((w.alloc (.cells #[.float .f64 (Fl.W u), .float .f64 0] 29)).alloc (.cells #[.float .f64 0, .float .f64 0] 29)).frozen? ⟨w.heap.size + 1, 1, none⟩ = false := by simp [go_sem]
  have hbel : Below w.heap.size w ((w.alloc (.cells #[.float .f64 (Fl.W u), .float .f64 0] 29)).alloc (.cells #[.float .f64 0, .float .f64 0] 29)) := ((Below.refl _ w).alloc (Nat.le_refl _) _).alloc (by simp) _
  generalize ((w.alloc (.cells #[.float .f64 (Fl.W u), .float .f64 0] 29)).alloc (.cells #[.float .f64 0, .float .f64 0] 29)) = W at *
  go_region_held3 (fun x => x.cell? ⟨w.heap.size, 0, none⟩ = some (.float .f64 (Fl.W u)) ∧ x.cell? ⟨w.heap.size, 1, none⟩ = some (.float .f64 0)) (go_keep)
    (first
      | (go_at_call_of 11 (Value.float .f64 (Fl.W u)); refine (Ldexp_W u v k _ h1 h2 v1 v2 HK.out).mono ?_; rintro e w1 ⟨rfl, rfl⟩)
      | (go_at_call_of 11 (Value.float .f64 0); refine (Ldexp_zero k _).mono ?_; rintro e w2 ⟨rfl, rfl⟩))
  go_wp2_with fail
  refine bodyPost_ret (v := .agg #[.float .f64 (Fl.W v), .float .f64 0]) (by simp [results, Yba.results20, go_sem, d0, d1]) rfl ⟨rfl, ?_⟩
  exact ((hbel.setCell (by simp) _).setCell (by simp) _).drew

set_option maxHeartbeats 800000 in
theorem norm_out (u : Nat) (x : Int) (w : World) (h1 : 1 ≤ u) (h2 : u ≤ 2046) (hu : u < 623 ∨ 1423 < u) (hx0 : -4611686018427387904 ≤ x) (hx1 : x ≤ 4611686018427387904) :
    Calls Yba.prog 13 #[.agg #[.float .f64 (Fl.W u), .float .f64 0], .int .i64 x] w fun e w' => e = .returned (.agg #[.float .f64 (Fl.W 1022), .float .f64 0, .int .i64 (x + ((u : Int) - 1022))]) ∧ Below w.heap.size w w' := by
  have a1 : double.order (Fl.W u) 2805742567851819008 = some (compare u 623) := by
    rw [show (2805742567851819008 : Nat) = Fl.W 623 from rfl]; exact Fl.order_W u 623 h1 h2 (by omega) (by omega)
  have a2 : double.order (Fl.W u) 6408622269748215808 = some (compare u 1423) := by
    rw [show (6408622269748215808 : Nat) = Fl.W 1423 from rfl]; exact Fl.order_W u 1423 h1 h2 (by omega) (by omega)
  have g3 : (FloatKind.f64.format.order (Fl.W u) 0 == some .eq) = false := by
    rw [show FloatKind.f64.format = double from rfl, Fl.order_W_zero u h1 h2]; rfl
  have g4 : (FloatKind.f64.format.order (Fl.W u) 9218868437227405312 == some .lt) = true := by
    rw [show FloatKind.f64.format = double from rfl, order_W_inf u h1 h2]; rfl
  rcases hu with hu | hu
  · have g1 : (FloatKind.f64.format.order (Fl.W u) 2805742567851819008 == some .gt || FloatKind.f64.format.order (Fl.W u) 2805742567851819008 == some .eq) = false := by
      rw [show FloatKind.f64.format = double from rfl, a1, Nat.compare_eq_lt.2 hu]; rfl
    clear a1 a2
    go_enter Yba.func13, Yba.ntmps13
    go_wp2_with fail
    refine (abs_W u _ h2).mono ?_
    rintro e w' ⟨rfl, rfl⟩
    go_wp2_with fail
    refine (inf_walk _).mono ?_
    rintro e w' ⟨rfl, rfl⟩
    go_wp2_with fail
    refine (Frexp_W u _ h1 h2).mono ?_
    rintro e w' ⟨rfl, rfl⟩
    go_wp2_with fail
    refine (tfLdexp_W u 1022 (-((u : Int) - 1022)) _ h1 h2 (by omega) (by omega) (by omega)).mono ?_
    rintro e w1 ⟨rfl, hb1⟩
    have bx := (Box3.new (w.alloc (.cells #[.float .f64 (Fl.W u), .float .f64 0] 29)) (.float .f64 0) (.float .f64 0) (.int .i64 0) 31).below hb1
    have b0 : Below w.heap.size w w1 := (((Below.refl _ w).alloc (Nat.le_refl _) _).alloc (by simp) _).trans (hb1.mono (by simp; omega))
    simp only [World.size_alloc] at bx
    obtain ⟨-, z0, z1, z2, y0, y1, y2⟩ := bx
    have HB : Hid (Below w.heap.size w w1) := b0
    clear hb1 b0
    go_wp2_with fail
    refine bodyPost_ret (v := .agg #[.float .f64 (Fl.W 1022), .float .f64 0, .int .i64 (x + ((u : Int) - 1022))]) (by simp [results, Yba.results13, go_sem, z0, z1, z2]) rfl ⟨rfl, ?_⟩
    exact Below.set3 HB.out (by omega) _ _ _
  · have g1 : (FloatKind.f64.format.order (Fl.W u) 2805742567851819008 == some .gt || FloatKind.f64.format.order (Fl.W u) 2805742567851819008 == some .eq) = true := by
      rw [show FloatKind.f64.format = double from rfl, a1, Nat.compare_eq_gt.2 (by omega : 623 < u)]; rfl
    have g2 : (FloatKind.f64.format.order (Fl.W u) 6408622269748215808 == some .lt || FloatKind.f64.format.order (Fl.W u) 6408622269748215808 == some .eq) = false := by
      rw [show FloatKind.f64.format = double from rfl, a2, Nat.compare_eq_gt.2 hu]; rfl
    clear a1 a2
    go_enter Yba.func13, Yba.ntmps13
    go_wp2_with fail
    refine (abs_W u _ h2).mono ?_
    rintro e w' ⟨rfl, rfl⟩
    go_wp2_with fail
    refine (inf_walk _).mono ?_
    rintro e w' ⟨rfl, rfl⟩
    go_wp2_with fail
    refine (Frexp_W u _ h1 h2).mono ?_
    rintro e w' ⟨rfl, rfl⟩
    go_wp2_with fail
    refine (tfLdexp_W u 1022 (-((u : Int) - 1022)) _ h1 h2 (by omega) (by omega) (by omega)).mono ?_
    rintro e w1 ⟨rfl, hb1⟩
    have bx := (Box3.new (w.alloc (.cells #[.float .f64 (Fl.W u), .float .f64 0] 29)) (.float .f64 0) (.float .f64 0) (.int .i64 0) 31).below hb1
    have b0 : Below w.heap.size w w1 := (((Below.refl _ w).alloc (Nat.le_refl _) _).alloc (by simp) _).trans (hb1.mono (by simp; omega))
    simp only [World.size_alloc] at bx
    obtain ⟨-, z0, z1, z2, y0, y1, y2⟩ := bx
    have HB : Hid (Below w.heap.size w w1) := b0
    clear hb1 b0
    go_wp2_with fail
    refine bodyPost_ret (v := .agg #[.float .f64 (Fl.W 1022), .float .f64 0, .int .i64 (x + ((u : Int) - 1022))]) (by simp [results, Yba.results13, go_sem, z0, z1, z2]) rfl ⟨rfl, ?_⟩
    exact Below.set3 HB.out (by omega) _ _ _

theorem quo_run (t : TypeId) (a b r : Nat) (h : double.div a b = some r) (w : World) : (binOp .quo t (.float .f64 a) (.float .f64 b)).run Yba.prog w = .ok (.float .f64 r) w :=
  run_float_arith w .quo t .f64 a b r h

theorem div_W (u : Nat) (h1 : 2 ≤ u) (h2 : u ≤ 2046) : double.div (Fl.W u) 4611686018427387904 = some (Fl.W (u - 1)) := by
  unfold Format.div
  rw [Fl.read_W u (by omega) h2, show double.read 4611686018427387904 = .number false 4503599627370496 (-51) by decide +kernel]
  have e0 : double.fractionBits + 2 + Nat.log2 4503599627370496 - Nat.log2 4503599627370496 = 54 := by decide +kernel
  simp only [Datum.quotient, e0]
  rw [if_neg (by decide)]
  have e1 : 2 * (4503599627370496 <<< 54 / 4503599627370496) + ((4503599627370496 <<< 54 % 4503599627370496 != 0) : Bool).toNat = 2 ^ 55 := by decide +kernel
  simp only [Option.map, Format.write, e1, Bool.xor_false]
  rw [Fl.near_W (u - 1) 55 _ (by omega) (by omega) (by omega)]

theorem ord_ge (u t : Nat) (hu1 : 1 ≤ u) (hu2 : u ≤ 2046) (ht1 : 1 ≤ t) (ht2 : t ≤ 2046) : (double.order (Fl.W u) (Fl.W t) == some .gt || double.order (Fl.W u) (Fl.W t) == some .eq) = decide (t ≤ u) := by
  rw [Fl.order_W u t hu1 hu2 ht1 ht2]
  rcases Nat.lt_trichotomy u t with h | h | h
  · rw [Nat.compare_eq_lt.2 h, decide_eq_false (by omega)]; rfl
  · rw [Nat.compare_eq_eq.2 h, decide_eq_true (by omega)]; rfl
  · rw [Nat.compare_eq_gt.2 h, decide_eq_true (by omega)]; rfl
theorem ord_lt (u t : Nat) (hu1 : 1 ≤ u) (hu2 : u ≤ 2046) (ht1 : 1 ≤ t) (ht2 : t ≤ 2046) : (double.order (Fl.W u) (Fl.W t) == some .lt) = decide (u < t) := by
  rw [Fl.order_W u t hu1 hu2 ht1 ht2]
  rcases Nat.lt_trichotomy u t with h | h | h
  · rw [Nat.compare_eq_lt.2 h, decide_eq_true h]; rfl
  · rw [Nat.compare_eq_eq.2 h, decide_eq_false (by omega)]; rfl
  · rw [Nat.compare_eq_gt.2 h, decide_eq_false (by omega)]; rfl
theorem ord_eq (u t : Nat) (hu1 : 1 ≤ u) (hu2 : u ≤ 2046) (ht1 : 1 ≤ t) (ht2 : t ≤ 2046) : (double.order (Fl.W u) (Fl.W t) == some .eq) = decide (u = t) := by
  rw [Fl.order_W u t hu1 hu2 ht1 ht2]
  rcases Nat.lt_trichotomy u t with h | h | h
  · rw [Nat.compare_eq_lt.2 h, decide_eq_false (by omega)]; rfl
  · rw [Nat.compare_eq_eq.2 h, decide_eq_true h]; rfl
  · rw [Nat.compare_eq_gt.2 h, decide_eq_false (by omega)]; rfl

set_option maxHeartbeats 800000 in
theorem log2_W (u : Nat) (w : World) (h1 : 1 ≤ u) (h2 : u ≤ 2046) :
    Calls Yba.prog 12 #[.float .f64 (Fl.W u)] w fun e w' => e = .returned (.tuple #[.int .i64 ((u : Int) - 1023), .bool true]) ∧ w' = w := by
  have o1 : (FloatKind.f64.format.order (Fl.W u) 0 == some .gt) = true := by
    rw [show FloatKind.f64.format = double from rfl, Fl.order_W_zero u h1 h2]; rfl
  have o2 : (FloatKind.f64.format.order (Fl.W u) 9218868437227405311 == some .gt) = false := by
    rw [show FloatKind.f64.format = double from rfl, order_W_max u h1 h2]; rfl
  go_enter Yba.func12, Yba.ntmps12
  go_wp2_with fail
  go_loop [0, 4] (fun vf vj => ∃ t : Nat, 1 ≤ t ∧ t ≤ 2046 ∧ (1023 ≤ t ∨ t = u) ∧ vf = .float .f64 (Fl.W t) ∧ vj = .int .i64 ((u : Int) - t)) (fun _ vj => (4000 - intOf vj).toNat)
  case atStart => exact ⟨u, h1, h2, Or.inr rfl, rfl, by congr 1; omega⟩
  case round =>
    clear o1 o2
    obtain ⟨t, ht1, ht2, hor, rfl, rfl⟩ := hrel
    have q := ord_ge t 1024 ht1 ht2 (by omega) (by omega)
    rw [show Fl.W 1024 = 4611686018427387904 from rfl] at q
    by_cases hge : 1024 ≤ t
    · have q1 : (FloatKind.f64.format.order (Fl.W t) 4611686018427387904 == some .gt || FloatKind.f64.format.order (Fl.W t) 4611686018427387904 == some .eq) = true := by
        rw [show FloatKind.f64.format = double from rfl, q, decide_eq_true hge]
      have m := quo_run 22 _ _ _ (div_W t (by omega) ht2)
      clear q
      go_wp2_with fail
      go_round
      case rel => exact ⟨t - 1, by omega, by omega, by omega, rfl, by congr 1; omega⟩
      case measure => simp [intOf]; omega
    · have q1 : (FloatKind.f64.format.order (Fl.W t) 4611686018427387904 == some .gt || FloatKind.f64.format.order (Fl.W t) 4611686018427387904 == some .eq) = false := by
        rw [show FloatKind.f64.format = double from rfl, q, decide_eq_false hge]
      clear q
      go_wp2_with fail
      go_loop [0, 4] (fun vf vj => ∃ t : Nat, 1 ≤ t ∧ t ≤ 1023 ∧ vf = .float .f64 (Fl.W t) ∧ vj = .int .i64 ((u : Int) - t)) (fun _ vj => (intOf vj + 4000).toNat)
      case atStart => exact ⟨t, ht1, by omega, rfl, rfl⟩
      case round =>
        clear q1 hor hge ht2 ht1
        obtain ⟨t, ht1, ht2, rfl, rfl⟩ := hrel
        have q := ord_lt t 1023 ht1 (by omega) (by omega) (by omega)
        rw [show Fl.W 1023 = 4607182418800017408 from rfl] at q
        by_cases hlt : t < 1023
        · have q1 : (FloatKind.f64.format.order (Fl.W t) 4607182418800017408 == some .lt) = true := by
            rw [show FloatKind.f64.format = double from rfl, q, decide_eq_true hlt]
          have mm := Fl.mul_W t 1024 ht1 (by omega) (by omega) (by omega) (by omega) (by omega)
          rw [show Fl.W 1024 = 4611686018427387904 from rfl, show t + 1024 - 1023 = t + 1 by omega] at mm
          have m := mul_run 22 _ _ _ mm
          clear q mm
          go_wp2_with fail
          go_round
          case rel => exact ⟨t + 1, by omega, by omega, rfl, by congr 1; omega⟩
          case measure => simp [intOf]; omega
        · have ht : t = 1023 := by omega
          subst ht
          have q1 : (FloatKind.f64.format.order (Fl.W 1023) 4607182418800017408 == some .lt) = false := by
            rw [show FloatKind.f64.format = double from rfl, q]; rfl
          have q2 : (FloatKind.f64.format.order (Fl.W 1023) 4607182418800017408 == some .eq) = true := by decide +kernel
          clear q
          go_wp2_with fail
          go_ret2
          exact ⟨rfl, rfl⟩
end Go.Proofs.Ybulkife
