/-
  LawS0458CMiddle's own walk, over the contracts of its sort and of median.
-/
import Derived.Test.YbulkilqMid
import Derived.Deep.OwnRows
namespace Go.Proofs.Ybulkilq
set_option linter.unusedVariables false
set_option linter.unusedSimpArgs false
open Go.RowKit

theorem info3 : (Yba.prog.info? 3).map (fun i => (i.zero, i.size, i.bytes)) = some (some (.int .i64 0), 1, 8) := by kernel_rfl
theorem info26 : (Yba.prog.info? 26).map (fun i => (i.zero, i.size, i.bytes)) = some (some (.float .f64 0), 1, 8) := by kernel_rfl

def Ints (S : Nat → Int) (n blk : Nat) (w : World) : Prop := ∀ j, j < n → w.cell? ⟨blk, j, none⟩ = some (.int .i64 (S j))
/-- The two rows filled up to place i. -/
structure Fill (z : Nat → Int) (fo : Int → Nat) (n : Nat) (w wr : World) (i : Nat) : Prop where
  ints : wr.rowIs w.heap.size 3 n (fun j => if j < i then .int .i64 (z j) else .int .i64 0)
  floats : wr.rowIs (w.heap.size + 1) 26 n (fun j => if j < i then .float .f64 (fo (z j)) else .float .f64 0)
  below : Below w.heap.size w wr

/-- zzs0458csort at the first row. -/
def CsortC (z : Nat → Int) (fo : Int → Nat) (S : Nat → Int) (n : Nat) (w : World) : Prop :=
  ∀ u, Fill z fo n w u n → Calls Yba.prog 5 #[.slice (some ⟨w.heap.size, 0, none⟩) n n] u fun e u' =>
    e = .returned (.tuple #[]) ∧ Ints S n w.heap.size u' ∧ u'.rowIs (w.heap.size + 1) 26 n (fun j => .float .f64 (fo (z j))) ∧ Below w.heap.size w u'
/-- median at the second. -/
def MedC (z : Nat → Int) (fo : Int → Nat) (S : Nat → Int) (n r : Nat) (w : World) : Prop :=
  ∀ u, u.rowIs (w.heap.size + 1) 26 n (fun j => .float .f64 (fo (z j))) → Calls Yba.prog 6 #[.slice (some ⟨w.heap.size + 1, 0, none⟩) n n] u fun e u' =>
    e = .returned (.float .f64 r) ∧ Words (fun j => fo (S j)) n (w.heap.size + 1) u' ∧ Below (w.heap.size + 1) u u'

theorem fill_start (z : Nat → Int) (fo : Int → Nat) (n : Nat) (w : World) :
    Fill z fo n w ((w.alloc (.cells (madeCells #[.int .i64 0] n) 3)).alloc (.cells (madeCells #[.float .f64 0] n) 26)) 0 where
  ints := ((World.rowIs_made w (.int .i64 0) n 3).alloc _).congr (fun i _ => by simp)
  floats := by
    have h := World.rowIs_made (w.alloc (.cells (madeCells #[.int .i64 0] n) 3)) (.float .f64 0) n 26
    rw [show (w.alloc (.cells (madeCells #[.int .i64 0] n) 3)).heap.size = w.heap.size + 1 by simp] at h
    exact h.congr (fun i _ => by simp)
  below := ((Below.refl _ _).alloc (Nat.le_refl _) _).alloc (by simp) _

theorem fill_step {z : Nat → Int} {fo : Int → Nat} {n : Nat} {w wr : World} {i : Nat} (h : Fill z fo n w wr i) :
    Fill z fo n w ((wr.setCell ⟨w.heap.size, i, none⟩ (.int .i64 (z i))).setCell ⟨w.heap.size + 1, i, none⟩ (.float .f64 (fo (z i)))) (i + 1) where
  ints := ((h.ints.set i (.int .i64 (z i))).setOther (a := ⟨w.heap.size + 1, i, none⟩) (by simp) _).congr (fun j _ => by
    by_cases e : j = i
    · subst e; simp
    · by_cases c : j < i
      · simp [e, c, show j < i + 1 by omega]
      · simp [e, c, show ¬ j < i + 1 by omega])
  floats := ((h.floats.setOther (a := ⟨w.heap.size, i, none⟩) (by simp) (.int .i64 (z i))).set i (.float .f64 (fo (z i)))).congr (fun j _ => by
    by_cases e : j = i
    · subst e; simp
    · by_cases c : j < i
      · simp [e, c, show j < i + 1 by omega]
      · simp [e, c, show ¬ j < i + 1 by omega])
  below := (h.below.setCell (p := ⟨w.heap.size, i, none⟩) (Nat.le_refl _) _).setCell (p := ⟨w.heap.size + 1, i, none⟩) (by simp) _

attribute [local go_sem] run_store_float

set_option maxRecDepth 100000 in
set_option maxHeartbeats 1000000 in
theorem law_walk (n : Nat) (hn0 : 0 < n) (hn : n ≤ 1024) (z : Nat → Int) (hz : ∀ j, j < n → -32768 ≤ z j ∧ z j ≤ 32767) (S : Nat → Int) (hSb : ∀ j, j < n → -40000 ≤ S j ∧ S j ≤ 40000)
    (fo : Int → Nat) (hfo : ∀ x, floatOfInt .f64 x = fo x) (r : Nat) (hr : FloatKind.f64.format.order r r = some .eq)
    (hodd : n % 2 = 1 → r = fo (S (n / 2))) (heven : n % 2 = 0 → Ieee.double.div (fo (S (n / 2 - 1) + S (n / 2))) 4611686018427387904 = some r)
    (hself : ∀ j, j < n → FloatKind.f64.format.order (fo (S j)) (fo (S j)) = some .eq)
    (x0 : Addr) (cap : Nat) (w : World) (hcell : ∀ j, j < n → w.cell? (x0.add j) = some (.int .i16 (z j))) (hC : CsortC z fo S n w) (hM : MedC z fo S n r w) :
    Calls Yba.prog 3 #[.slice (some x0) n cap] w fun e w' => e = .returned (.bool true) ∧ Below w.heap.size w w' := by
  have hxb : ∀ j, j < n → (x0.add j).block < w.heap.size := fun j hj => World.block_lt_of_cell? _ _ (hcell j hj)
  have hne : ((n : Int) == 0) = false := by rw [beq_eq_false_iff_ne]; omega
  have hgt : decide ((n : Int) > 1024) = false := decide_eq_false (by omega)
  have hmk1 := run_make_row' (P := Yba.prog) 23 3 (.int .i64 0) 8 Yba.underlying23 info3 rfl .i64 .i64 n (by omega) (by omega)
  have hmk2 := run_make_row' (P := Yba.prog) 24 26 (.float .f64 0) 8 Yba.underlying24 info26 rfl .i64 .i64 n (by omega) (by omega)
  have HZ : Hid (∀ j, j < n → -32768 ≤ z j ∧ z j ≤ 32767) := hz
  have HB : Hid (∀ j, j < n → -40000 ≤ S j ∧ S j ≤ 40000) := hSb
  have HO : Hid (n % 2 = 1 → r = fo (S (n / 2))) := hodd
  have HE : Hid (n % 2 = 0 → Ieee.double.div (fo (S (n / 2 - 1) + S (n / 2))) 4611686018427387904 = some r) := heven
  have HS : Hid (∀ j, j < n → FloatKind.f64.format.order (fo (S j)) (fo (S j)) = some .eq) := hself
  have HX : Hid (∀ j, j < n → (x0.add j).block < w.heap.size ∧ w.cell? (x0.add j) = some (.int .i16 (z j))) := fun j hj => ⟨hxb j hj, hcell j hj⟩
  have HF : Hid (∀ x, floatOfInt .f64 x = fo x) := hfo
  clear hz hSb hodd heven hself hcell hfo hxb
  go_enter Yba.func3, Yba.ntmps3
  go_wp2
  clear hmk1 hmk2
  go_loopw [25] (fun vi wr => ∃ i : Nat, vi = .int .i64 i ∧ i ≤ n ∧ Fill z fo n w wr i) (fun vi _ => n - (Go.RowKit.intOf vi).toNat)
  case atStart => exact ⟨0, by go_num, Nat.zero_le _, fill_start z fo n w⟩
  case round =>
    obtain ⟨i, rfl, hi, hF⟩ := hrel
    by_cases hlt : i < n
    · have g1 : wr.cell? (x0.add i) = some (.int .i16 (z i)) := (hF.below.cell (p := x0.add i) (HX.out i hlt).1).trans (HX.out i hlt).2
      have g2 : wr.cell? ⟨w.heap.size, i, none⟩ = some (.int .i64 0) := by simpa using hF.ints.cell hlt
      have g3 : wr.frozen? ⟨w.heap.size, i, none⟩ = false := hF.ints.frozen i
      have g4 : wr.cell? ⟨w.heap.size + 1, i, none⟩ = some (.float .f64 0) := by simpa using hF.floats.cell hlt
      have g5 : wr.frozen? ⟨w.heap.size + 1, i, none⟩ = false := hF.floats.frozen i
      have hfo := HF.out
      have hz0 : -32768 ≤ z i := (HZ.out i hlt).1
      have hz1 : z i ≤ 32767 := (HZ.out i hlt).2
      have FS : Hid _ := fill_step hF
      clear hF
      go_wp2
      go_roundw
      case rel => exact ⟨i + 1, by go_num, by omega, FS.out⟩
      case measure => simp [Go.RowKit.intOf]; omega
    · obtain rfl : n = i := by omega
      clear HX HZ
      by_cases hpar : n % 2 = 1
      · have ho : ((n : Int) % 2 == 1) = true := by rw [beq_iff_eq]; omega
        have hro := HO.out hpar
        have hr' := HS.out (n / 2) (by omega)
        have hfo := HF.out
        clear HO HE
        go_wp2_with (first
          | (go_at_call 5; refine Calls.mono (hC _ hF) ?_; rintro e u1 ⟨rfl, hI1, hR1, hB1⟩)
          | (go_at_call 6; refine Calls.mono (hM _ hR1) ?_; rintro e u2 ⟨rfl, hW2, hB2⟩
             have W : Hid (Ints S n w.heap.size u2 ∧ Words (fun j => fo (S j)) n (w.heap.size + 1) u2 ∧ Below w.heap.size w u2) :=
               ⟨fun j hj => (hB2.cell (p := ⟨w.heap.size, j, none⟩) (Nat.lt_succ_self _)).trans (hI1 j hj), hW2, hB1.trans (hB2.mono (Nat.le_succ _))⟩
             have hc1 : u2.cell? ⟨w.heap.size, n / 2, none⟩ = some (.int .i64 (S (n / 2))) := W.out.1 _ (by omega)
             clear hW2 hB2 hI1 hR1 hB1))
        go_loopw [10] (fun vi wr => ∃ k : Nat, vi = .int .i64 k ∧ k ≤ n ∧ Ints S n w.heap.size wr ∧ Words (fun j => fo (S j)) n (w.heap.size + 1) wr ∧ Below w.heap.size w wr) (fun vi _ => n - (Go.RowKit.intOf vi).toNat)
        case atStart => exact ⟨0, by go_num, Nat.zero_le _, W.out.1, W.out.2.1, W.out.2.2⟩
        case round =>
          obtain ⟨k, rfl, hk, hI, hW, hBl⟩ := hrel
          have hfo := HF.out
          clear W
          by_cases hkn : k < n
          · have q1 : wr.cell? ⟨w.heap.size, k, none⟩ = some (.int .i64 (S k)) := hI k hkn
            have q2 : wr.cell? ⟨w.heap.size + 1, k, none⟩ = some (.float .f64 (fo (S k))) := hW k hkn
            have hss := HS.out k hkn
            go_wp2
            go_quiet (fail)
            go_wp2
            go_roundw
            case rel => exact ⟨k + 1, by go_num, by omega, hI, hW, below_drewN hBl _⟩
            case measure => simp [Go.RowKit.intOf]; omega
          · go_wp2
            go_ret
            exact ⟨rfl, hBl⟩
      · have ho : ((n : Int) % 2 == 1) = false := by rw [beq_eq_false_iff_ne]; omega
        have hD := fun v => quo_run 26 _ _ _ (HE.out (by omega)) v
        have hfo := HF.out
        have b0 := HB.out (n / 2 - 1) (by omega)
        have b1 := HB.out (n / 2) (by omega)
        clear HO HE
        obtain ⟨x, hx⟩ : ∃ x, x = S (n / 2 - 1) := ⟨_, rfl⟩
        obtain ⟨y, hy⟩ : ∃ y, y = S (n / 2) := ⟨_, rfl⟩
        rw [← hx, ← hy] at hD
        rw [← hx] at b0
        rw [← hy] at b1
        obtain ⟨b00, b01⟩ := b0
        obtain ⟨b10, b11⟩ := b1
        have hX : Hid (x = S (n / 2 - 1)) := hx
        have hY : Hid (y = S (n / 2)) := hy
        clear hx hy
        go_wp2_with (first
          | (go_at_call 5; refine Calls.mono (hC _ hF) ?_; rintro e u1 ⟨rfl, hI1, hR1, hB1⟩)
          | (go_at_call 6; refine Calls.mono (hM _ hR1) ?_; rintro e u2 ⟨rfl, hW2, hB2⟩
             have W : Hid (Ints S n w.heap.size u2 ∧ Words (fun j => fo (S j)) n (w.heap.size + 1) u2 ∧ Below w.heap.size w u2) :=
               ⟨fun j hj => (hB2.cell (p := ⟨w.heap.size, j, none⟩) (Nat.lt_succ_self _)).trans (hI1 j hj), hW2, hB1.trans (hB2.mono (Nat.le_succ _))⟩
             have hc1 : u2.cell? ⟨w.heap.size, n / 2, none⟩ = some (.int .i64 y) := by rw [hY.out]; exact W.out.1 _ (by omega)
             have hc0 : u2.cell? ⟨w.heap.size, n / 2 - 1, none⟩ = some (.int .i64 x) := by rw [hX.out]; exact W.out.1 _ (by omega)
             clear hW2 hB2 hI1 hR1 hB1))
        go_quiet (fail)
        go_wp2
        go_loopw [10] (fun vi wr => ∃ k : Nat, vi = .int .i64 k ∧ k ≤ n ∧ Ints S n w.heap.size wr ∧ Words (fun j => fo (S j)) n (w.heap.size + 1) wr ∧ Below w.heap.size w wr) (fun vi _ => n - (Go.RowKit.intOf vi).toNat)
        case atStart => exact ⟨0, by go_num, Nat.zero_le _, W.out.1, W.out.2.1, below_drewN W.out.2.2 _⟩
        case round =>
          obtain ⟨k, rfl, hk, hI, hW, hBl⟩ := hrel
          have hfo := HF.out
          clear W
          by_cases hkn : k < n
          · have q1 : wr.cell? ⟨w.heap.size, k, none⟩ = some (.int .i64 (S k)) := hI k hkn
            have q2 : wr.cell? ⟨w.heap.size + 1, k, none⟩ = some (.float .f64 (fo (S k))) := hW k hkn
            have hss := HS.out k hkn
            go_wp2
            go_quiet (fail)
            go_wp2
            go_roundw
            case rel => exact ⟨k + 1, by go_num, by omega, hI, hW, below_drewN hBl _⟩
            case measure => simp [Go.RowKit.intOf]; omega
          · go_wp2
            go_ret
            exact ⟨rfl, hBl⟩
end Go.Proofs.Ybulkilq
