/-
  scaledPow by its contract.
-/
import Derived.Test.YbulkifeScaled
import Derived.Deep.DeepCutAuto
import Derived.Deep.LoopGhost
import Derived.Deep.Light
namespace Go.Proofs.Ybulkife
set_option linter.unusedVariables false
set_option linter.unusedSimpArgs false
open Go.RowKit Ieee
attribute [local go_sem] run_store_float

/-- A scaled number's words and exponent. -/
abbrev T3 := Nat × Nat × Int

def Norm3 (h l : Nat) (x : Int) (c : T3) : Prop := NormTo h l x c.1 c.2.1 c.2.2

def SMulTo (a b c : T3) : Prop :=
  ∃ h l, Nonempty (TfMul a.1 a.2.1 b.1 b.2.1 h l) ∧ -4611686018427387904 ≤ a.2.2 + b.2.2 ∧ a.2.2 + b.2.2 ≤ 4611686018427387904 ∧ Norm3 h l (a.2.2 + b.2.2) c

def agg3 (a : T3) : Value := .agg #[.float .f64 a.1, .float .f64 a.2.1, .int .i64 a.2.2]

theorem smul_to (a b c : T3) (w : World) (h : SMulTo a b c) :
    Calls Yba.prog 14 #[.agg #[.float .f64 a.1, .float .f64 a.2.1, .int .i64 a.2.2], .agg #[.float .f64 b.1, .float .f64 b.2.1, .int .i64 b.2.2]] w fun e w' =>
      e = .returned (.agg #[.float .f64 c.1, .float .f64 c.2.1, .int .i64 c.2.2]) ∧ Below w.heap.size w w' := by
  obtain ⟨h, l, ⟨k⟩, h0, h1, hn⟩ := h
  exact smul_any _ _ _ _ _ _ _ _ _ _ _ w k h0 h1 hn

def SPow : Nat → T3 → T3 → Nat → T3 → Prop
  | 0, p, _, k, r => k = 0 ∧ p = r
  | f + 1, p, b, k, r => (k = 0 ∧ p = r) ∨ (k ≠ 0 ∧ ∃ p' b', (if k % 2 = 1 then SMulTo p b p' else p' = p) ∧ SMulTo b b b' ∧ SPow f p' b' (k / 2) r)

def Box (b : Nat) (a : T3) (w : World) : Prop := Box3 b (.float .f64 a.1) (.float .f64 a.2.1) (.int .i64 a.2.2) w

/-- The three boxes of scaledPow: the result, power, base. -/
def Ready (B b4 b5 b6 : Nat) (p b : T3) (w wx : World) : Prop :=
  B ≤ b4 ∧ b4 < b5 ∧ b4 < b6 ∧ b5 ≠ b6 ∧ Box b4 (0, 0, 0) wx ∧ Box b5 p wx ∧ Box b6 b wx ∧ Below B w wx

theorem ready_mk {B b4 b5 b6 : Nat} {p b : T3} {w wx : World} (h1 : B ≤ b4) (h2 : b4 < b5) (h3 : b4 < b6) (h4 : b5 ≠ b6)
    (h5 : Box3 b4 (.float .f64 0) (.float .f64 0) (.int .i64 0) wx) (h6 : Box3 b5 (.float .f64 p.1) (.float .f64 p.2.1) (.int .i64 p.2.2) wx) (h7 : Box3 b6 (.float .f64 b.1) (.float .f64 b.2.1) (.int .i64 b.2.2) wx) (h8 : Below B w wx) :
    Ready B b4 b5 b6 p b w wx := ⟨h1, h2, h3, h4, h5, h6, h7, h8⟩

theorem Box3.newAt {b : Nat} {w : World} {u0 u1 u2 : Value} {t : TypeId} (h : b = w.heap.size) : Box3 b u0 u1 u2 (w.alloc (.cells #[u0, u1, u2] t)) := by subst h; exact Box3.new w u0 u1 u2 t
theorem Box3.other {b : Nat} {w : World} {u0 u1 u2 : Value} {o : Obj} (h : Box3 b u0 u1 u2 w) : Box3 b u0 u1 u2 (w.alloc o) := h.below ((Below.refl _ _).alloc (Nat.le_refl _) o)
theorem Box3.setNe {b c i : Nat} {w : World} {u0 u1 u2 v : Value} (h : Box3 b u0 u1 u2 w) (hne : b ≠ c) : Box3 b u0 u1 u2 (w.setCell ⟨c, i, none⟩ v) := by
  obtain ⟨h0, c0, c1, c2, f0, f1, f2⟩ := h
  have e0 : (⟨b, 0, none⟩ : Addr) ≠ ⟨c, i, none⟩ := by simp [hne]
  have e1 : (⟨b, 1, none⟩ : Addr) ≠ ⟨c, i, none⟩ := by simp [hne]
  have e2 : (⟨b, 2, none⟩ : Addr) ≠ ⟨c, i, none⟩ := by simp [hne]
  refine ⟨by simpa using h0, ?_, ?_, ?_, ?_, ?_, ?_⟩ <;> simp [go_sem, *]
theorem Box3.set3 {b : Nat} {w : World} {u0 u1 u2 v0 v1 v2 : Value} (h : Box3 b v0 v1 v2 w) : Box3 b u0 u1 u2 (((w.setCell ⟨b, 0, none⟩ u0).setCell ⟨b, 1, none⟩ u1).setCell ⟨b, 2, none⟩ u2) := by
  obtain ⟨h0, c0, c1, c2, f0, f1, f2⟩ := h
  refine ⟨by simpa using h0, ?_, ?_, ?_, ?_, ?_, ?_⟩ <;> simp [go_sem, *]

theorem Ready.call {B b4 b5 b6 : Nat} {p b : T3} {w wx w1 : World} (h : Ready B b4 b5 b6 p b w wx) (k : Below wx.heap.size wx w1) : Ready B b4 b5 b6 p b w w1 := by
  obtain ⟨h1, h2, h3, h4, h5, h6, h7, h8⟩ := h
  exact ⟨h1, h2, h3, h4, Box3.below h5 k, Box3.below h6 k, Box3.below h7 k, h8.trans (k.mono (by have := h8.size; have := h5.1; omega))⟩
theorem Below.set3 {B : Nat} {w wx : World} (h : Below B w wx) {b : Nat} (hb : B ≤ b) (u0 u1 u2 : Value) : Below B w (((wx.setCell ⟨b, 0, none⟩ u0).setCell ⟨b, 1, none⟩ u1).setCell ⟨b, 2, none⟩ u2) :=
  ((h.setCell (p := ⟨b, 0, none⟩) hb _).setCell (p := ⟨b, 1, none⟩) hb _).setCell (p := ⟨b, 2, none⟩) hb _
theorem Box3.set3Ne {b c : Nat} {w : World} {u0 u1 u2 v0 v1 v2 : Value} (h : Box3 b u0 u1 u2 w) (hne : b ≠ c) : Box3 b u0 u1 u2 (((w.setCell ⟨c, 0, none⟩ v0).setCell ⟨c, 1, none⟩ v1).setCell ⟨c, 2, none⟩ v2) :=
  ((h.setNe hne).setNe hne).setNe hne
theorem Ready.setP {B b4 b5 b6 : Nat} {p b : T3} {w wx : World} (h : Ready B b4 b5 b6 p b w wx) (p' : T3) :
    Ready B b4 b5 b6 p' b w (((wx.setCell ⟨b5, 0, none⟩ (.float .f64 p'.1)).setCell ⟨b5, 1, none⟩ (.float .f64 p'.2.1)).setCell ⟨b5, 2, none⟩ (.int .i64 p'.2.2)) := by
  obtain ⟨h1, h2, h3, h4, h5, h6, h7, h8⟩ := h
  exact ⟨h1, h2, h3, h4, Box3.set3Ne h5 (by omega), Box3.set3 h6, Box3.set3Ne h7 (by omega), Below.set3 h8 (by omega) _ _ _⟩
theorem Ready.setB {B b4 b5 b6 : Nat} {p b : T3} {w wx : World} (h : Ready B b4 b5 b6 p b w wx) (b' : T3) :
    Ready B b4 b5 b6 p b' w (((wx.setCell ⟨b6, 0, none⟩ (.float .f64 b'.1)).setCell ⟨b6, 1, none⟩ (.float .f64 b'.2.1)).setCell ⟨b6, 2, none⟩ (.int .i64 b'.2.2)) := by
  obtain ⟨h1, h2, h3, h4, h5, h6, h7, h8⟩ := h
  exact ⟨h1, h2, h3, h4, Box3.set3Ne h5 (by omega), Box3.set3Ne h6 (by omega), Box3.set3 h7, Below.set3 h8 (by omega) _ _ _⟩

theorem norm_one (w : World) : Calls Yba.prog 13 #[.agg #[.float .f64 4607182418800017408, .float .f64 0], .int .i64 0] w fun e w' => e = .returned (.agg #[.float .f64 4607182418800017408, .float .f64 0, .int .i64 0]) ∧ Below w.heap.size w w' :=
  norm_in _ _ _ _ (by decide) (by decide +kernel) (by decide +kernel)

theorem drew_size (w : World) : w.drew.heap.size = w.heap.size := rfl

theorem set_size (w : World) (a : Addr) (v : Value) : (w.setCell a v).heap.size = w.heap.size := by simp [World.setCell]

theorem bcell {W w1 : World} (hb : Below W.heap.size W w1) : (∀ b o, b < W.heap.size → w1.cell? ⟨b, o, none⟩ = W.cell? ⟨b, o, none⟩) ∧ (∀ b o, b < W.heap.size → w1.frozen? ⟨b, o, none⟩ = W.frozen? ⟨b, o, none⟩) ∧ (∀ b, b < W.heap.size → b < w1.heap.size) :=
  ⟨fun b o h => hb.cell (p := ⟨b, o, none⟩) h, fun b o h => hb.frozen (p := ⟨b, o, none⟩) h, fun b h => Nat.lt_of_lt_of_le h hb.size⟩

/-- What is held in the region: two cells, and that nothing of W has turned. -/
theorem keepBy {W v v' : World} {b : Nat} {u0 u1 : Value} (hb : b < W.heap.size) (h : v.cell? ⟨b, 0, none⟩ = some u0 ∧ v.cell? ⟨b, 1, none⟩ = some u1 ∧ Below W.heap.size W v) (k : Below W.heap.size v v') :
    v'.cell? ⟨b, 0, none⟩ = some u0 ∧ v'.cell? ⟨b, 1, none⟩ = some u1 ∧ Below W.heap.size W v' :=
  ⟨by rw [k.cell (p := ⟨b, 0, none⟩) hb]; exact h.1, by rw [k.cell (p := ⟨b, 1, none⟩) hb]; exact h.2.1, h.2.2.trans k⟩
theorem keepCall {W v v' : World} {b : Nat} {u0 u1 : Value} (hb : b < W.heap.size) (h : v.cell? ⟨b, 0, none⟩ = some u0 ∧ v.cell? ⟨b, 1, none⟩ = some u1 ∧ Below W.heap.size W v) (k : Below v.heap.size v v') :
    v'.cell? ⟨b, 0, none⟩ = some u0 ∧ v'.cell? ⟨b, 1, none⟩ = some u1 ∧ Below W.heap.size W v' := keepBy hb h (k.mono h.2.2.size)
theorem keepAlloc {W v : World} {b : Nat} {u0 u1 : Value} (hb : b < W.heap.size) (h : v.cell? ⟨b, 0, none⟩ = some u0 ∧ v.cell? ⟨b, 1, none⟩ = some u1 ∧ Below W.heap.size W v) (o : Obj) :
    (v.alloc o).cell? ⟨b, 0, none⟩ = some u0 ∧ (v.alloc o).cell? ⟨b, 1, none⟩ = some u1 ∧ Below W.heap.size W (v.alloc o) := keepBy hb h ((Below.refl _ _).alloc h.2.2.size o)

theorem keepSet {W v : World} {b : Nat} {u0 u1 : Value} (hb : b < W.heap.size) (h : v.cell? ⟨b, 0, none⟩ = some u0 ∧ v.cell? ⟨b, 1, none⟩ = some u1 ∧ Below W.heap.size W v) {c : Nat} (hc : W.heap.size ≤ c) (i : Nat) (u : Value) :
    (v.setCell ⟨c, i, none⟩ u).cell? ⟨b, 0, none⟩ = some u0 ∧ (v.setCell ⟨c, i, none⟩ u).cell? ⟨b, 1, none⟩ = some u1 ∧ Below W.heap.size W (v.setCell ⟨c, i, none⟩ u) := keepBy hb h ((Below.refl _ _).setCell (p := ⟨c, i, none⟩) hc u)

theorem keepDrew {W v : World} {b : Nat} {u0 u1 : Value} (h : v.cell? ⟨b, 0, none⟩ = some u0 ∧ v.cell? ⟨b, 1, none⟩ = some u1 ∧ Below W.heap.size W v) :
    v.drew.cell? ⟨b, 0, none⟩ = some u0 ∧ v.drew.cell? ⟨b, 1, none⟩ = some u1 ∧ Below W.heap.size W v.drew := ⟨h.1, h.2.1, h.2.2.drew⟩

set_option maxHeartbeats 2000000 in
theorem spow_any (fuel xh xl : Nat) (k : Int) (b0 r : T3) (w : World) (hk0 : -9223372036854775808 ≤ k) (hk1 : k ≤ 9223372036854775807)
    (hn : Norm3 xh xl 0 b0) (hs : SPow fuel (4607182418800017408, 0, 0) b0 k.toNat r) :
    Calls Yba.prog 10 #[.agg #[.float .f64 xh, .float .f64 xl], .int .i64 k] w fun e w' =>
      e = .returned (.agg #[.float .f64 r.1, .float .f64 r.2.1, .int .i64 r.2.2]) ∧ Below w.heap.size w w' := by
  have HN : Hid (Norm3 xh xl 0 b0) := hn
  have HS : Hid (SPow fuel (4607182418800017408, 0, 0) b0 k.toNat r) := hs
  clear hn hs
  go_enter Yba.func10, Yba.ntmps10
  go_wp2_with fail
  go_cut [5, 6] (fun v5 v6 wx => ∃ b5 b6, v5 = .pointer (some ⟨b5, 0, none⟩) ∧ v6 = .pointer (some ⟨b6, 0, none⟩) ∧ Ready w.heap.size (w.heap.size + 1) b5 b6 (4607182418800017408, 0, 0) b0 w wx)
  case first =>
    have hB4 : Box3 (w.heap.size + 1) (.float .f64 0) (.float .f64 0) (.int .i64 0) ((w.alloc (.cells #[.float .f64 xh, .float .f64 xl] 29)).alloc (.cells #[.float .f64 0, .float .f64 0, .int .i64 0] 31)) := by
      have := Box3.new (w.alloc (.cells #[.float .f64 xh, .float .f64 xl] 29)) (.float .f64 0) (.float .f64 0) (.int .i64 0) 31
      simp only [World.size_alloc] at this
      exact this
    have hBel : Below w.heap.size w ((w.alloc (.cells #[.float .f64 xh, .float .f64 xl] 29)).alloc (.cells #[.float .f64 0, .float .f64 0, .int .i64 0] 31)) := ((Below.refl _ w).alloc (Nat.le_refl _) _).alloc (by simp) _
    have c0 : ((w.alloc (.cells #[.float .f64 xh, .float .f64 xl] 29)).alloc (.cells #[.float .f64 0, .float .f64 0, .int .i64 0] 31)).cell? ⟨w.heap.size, 0, none⟩ = some (.float .f64 xh) := by simp [go_sem]
    have c1 : ((w.alloc (.cells #[.float .f64 xh, .float .f64 xl] 29)).alloc (.cells #[.float .f64 0, .float .f64 0, .int .i64 0] 31)).cell? ⟨w.heap.size, 1, none⟩ = some (.float .f64 xl) := by simp [go_sem]
    have hlt : w.heap.size < ((w.alloc (.cells #[.float .f64 xh, .float .f64 xl] 29)).alloc (.cells #[.float .f64 0, .float .f64 0, .int .i64 0] 31)).heap.size := by simp; omega
    have hsW : w.heap.size + 1 + 1 ≤ ((w.alloc (.cells #[.float .f64 xh, .float .f64 xl] 29)).alloc (.cells #[.float .f64 0, .float .f64 0, .int .i64 0] 31)).heap.size := by simp
    generalize ((w.alloc (.cells #[.float .f64 xh, .float .f64 xl] 29)).alloc (.cells #[.float .f64 0, .float .f64 0, .int .i64 0] 31)) = W at *
    have d0 : W.cell? ⟨w.heap.size, 0, none⟩ = some (.float .f64 xh) ∧ W.cell? ⟨w.heap.size, 1, none⟩ = some (.float .f64 xl) ∧ Below W.heap.size W W := ⟨c0, c1, Below.refl _ _⟩
    go_region_held3 (fun v => v.cell? ⟨w.heap.size, 0, none⟩ = some (.float .f64 xh) ∧ v.cell? ⟨w.heap.size, 1, none⟩ = some (.float .f64 xl) ∧ Below W.heap.size W v)
      (repeat' (first | with_reducible exact d0 | with_reducible assumption | omega | with_reducible refine keepDrew ?_ | with_reducible refine keepAlloc hlt ?_ _ | with_reducible refine keepSet hlt ?_ ?_ _ _ | (with_reducible refine keepCall hlt ?_ ‹Below _ _ _›; with_reducible assumption)))
      (first
        | (go_at_call_of 13 (Value.agg #[.float .f64 4607182418800017408, .float .f64 0]); refine (norm_one _).mono ?_; rintro e w1 ⟨rfl, hb1⟩; have kk1 := keepCall hlt ‹_ ∧ _ ∧ Below W.heap.size W _› hb1; have q1 := kk1.2.2.size; obtain ⟨hc1, hf1, hz1⟩ := bcell hb1; (try simp only [drew_size, World.size_alloc] at hc1 hf1 hz1); (try have za := hz1 W.heap.size (by omega)); (try have zb := hz1 (W.heap.size + 1) (by omega)))
        | (go_at_call_of 13 (Value.agg #[.float .f64 xh, .float .f64 xl]); refine (HN.out _).mono ?_; rintro e w2 ⟨rfl, hb2⟩; have kk2 := keepCall hlt ‹_ ∧ _ ∧ Below W.heap.size W _› hb2; have q2 := kk2.2.2.size; obtain ⟨hc2, hf2, hz2⟩ := bcell hb2; (try simp only [drew_size, World.size_alloc] at hc2 hf2 hz2); (try have ya := hz2 W.heap.size (by omega)); (try have yb := hz2 (W.heap.size + 1) (by omega)); (try have yc := hz2 w1.heap.size (by omega)); (try have yd := hz2 (w1.heap.size + 1) (by omega))))
    all_goals go_wp2_with fail
    all_goals go_meet
    all_goals
      go_light
      have bx1 : ∀ b u0 u1 u2, Box3 b u0 u1 u2 _ → Box3 b u0 u1 u2 w1 := fun b u0 u1 u2 h => h.below hb1
      have bx2 : ∀ b u0 u1 u2, Box3 b u0 u1 u2 _ → Box3 b u0 u1 u2 w2 := fun b u0 u1 u2 h => h.below hb2
      have hWw : w.heap.size ≤ W.heap.size := by omega
      refine ⟨_, _, rfl, rfl, ready_mk (by omega) (by omega) (by omega) (by omega) ?_ ?_ ?_ (hBel.trans (Below.mono (And.right (And.right ‹_ ∧ _ ∧ Below W.heap.size W _›)) hWw))⟩
    all_goals (try dsimp only)
    all_goals (repeat' (first
      | with_reducible assumption
      | (with_reducible refine Box3.newAt ?_; first | with_reducible rfl | (simp only [drew_size, set_size, World.size_alloc]; done))
      | with_reducible refine Box3.set3 (v0 := .float .f64 0) (v1 := .float .f64 0) (v2 := .int .i64 0) ?_
      | (with_reducible refine Box3.setNe ?_ ?_; rotate_left; omega)
      | with_reducible refine Box3.other ?_
      | with_reducible refine Box3.drew ?_
      | with_reducible apply bx2
      | with_reducible apply bx1))
  case rest =>
    obtain ⟨b5, b6, rfl, rfl, hR⟩ := hcut
    go_wp2_with fail
    go_loopw [1] (fun vk wr => ∃ (f : Nat) (kk : Int) (p b : T3), vk = .int .i64 kk ∧ -9223372036854775808 ≤ kk ∧ kk ≤ 9223372036854775807 ∧ SPow f p b kk.toNat r ∧ Ready w.heap.size (w.heap.size + 1) b5 b6 p b w wr) (fun vk _ => (intOf vk).toNat)
    case atStart => exact ⟨fuel, k, _, _, rfl, hk0, hk1, HS.out, hR⟩
    case round =>
      clear hk0 hk1 HS HN hR
      obtain ⟨f, kk, p, b, rfl, hk0, hk1, hs, hR⟩ := hrel
      by_cases hpos : 0 < kk
      · obtain ⟨n, rfl⟩ : ∃ n : Nat, kk = (n : Int) := ⟨kk.toNat, by omega⟩
        rw [Int.toNat_natCast] at hs
        cases f with
        | zero => obtain ⟨h0, _⟩ := hs; omega
        | succ f =>
        rcases hs with ⟨h0, _⟩ | ⟨_, p', b', hp, hb, hs⟩
        · omega
        have HR : Hid (Ready w.heap.size (w.heap.size + 1) b5 b6 p b w wr) := hR
        have HP : Hid (if n % 2 = 1 then SMulTo p b p' else p' = p) := hp
        have HB : Hid (SMulTo b b b') := hb
        have HS : Hid (SPow f p' b' (n / 2) r) := hs
        clear hs hp hb
        obtain ⟨-, -, -, hne, -, ⟨q5, c50, c51, c52, f50, f51, f52⟩, ⟨q6, c60, c61, c62, f60, f61, f62⟩, -⟩ := hR
        have hne' : ¬ b6 = b5 := fun e => hne e.symm
        by_cases hodd : n % 2 = 1
        · have hb : (bits .and .i64 (n : Int) 1 == 1) = true := by rw [and_one_i64 n (by omega), hodd]; rfl
          have HP' : Hid (SMulTo p b p') := by have := HP.out; rw [if_pos hodd] at this; exact this
          clear HP hodd
          go_wp2_with fail
          refine (smul_to p b p' _ HP'.out).mono ?_
          rintro e w1 ⟨rfl, hb1⟩
          have R1 := HR.out.call hb1
          clear hb1 q5 c50 c51 c52 f50 f51 f52 q6 c60 c61 c62 f60 f61 f62 HR HP'
          have HR1 : Hid (Ready w.heap.size (w.heap.size + 1) b5 b6 p b w w1) := R1
          obtain ⟨-, -, -, -, -, ⟨q5, c50, c51, c52, f50, f51, f52⟩, ⟨q6, c60, c61, c62, f60, f61, f62⟩, -⟩ := R1
          go_wp2_with fail
          refine (smul_to b b b' _ HB.out).mono ?_
          rintro e w2 ⟨rfl, hb2⟩
          have R2 := (HR1.out.setP p').call hb2
          clear hb2 q5 c50 c51 c52 f50 f51 f52 q6 c60 c61 c62 f60 f61 f62 HR1 HB
          have HR2 : Hid (Ready w.heap.size (w.heap.size + 1) b5 b6 p' b w w2) := R2
          obtain ⟨-, -, -, -, -, -, ⟨q6, c60, c61, c62, f60, f61, f62⟩, -⟩ := R2
          go_wp2_with fail
          go_roundw
          case rel => exact ⟨f, ((n / 2 : Nat) : Int), p', b', by go_num, by omega, by omega, by rw [Int.toNat_natCast]; exact HS.out, HR2.out.setB b'⟩
          case measure => simp [intOf]; omega
        · have hb : (bits .and .i64 (n : Int) 1 == 1) = false := by rw [and_one_i64 n (by omega), show n % 2 = 0 by omega]; rfl
          have HP' : Hid (p' = p) := by have := HP.out; rw [if_neg hodd] at this; exact this
          clear HP hodd
          go_wp2_with fail
          refine (smul_to b b b' _ HB.out).mono ?_
          rintro e w2 ⟨rfl, hb2⟩
          have R2 := HR.out.call hb2
          clear hb2 q5 c50 c51 c52 f50 f51 f52 q6 c60 c61 c62 f60 f61 f62 HR HB
          have HR2 : Hid (Ready w.heap.size (w.heap.size + 1) b5 b6 p b w w2) := R2
          obtain ⟨-, -, -, -, -, -, ⟨q6, c60, c61, c62, f60, f61, f62⟩, -⟩ := R2
          go_wp2_with fail
          go_roundw
          case rel => exact ⟨f, ((n / 2 : Nat) : Int), p, b', by go_num, by omega, by omega, by rw [Int.toNat_natCast, ← HP'.out]; exact HS.out, HR2.out.setB b'⟩
          case measure => simp [intOf]; omega
      · have hp : p = r := by
          have hz : kk.toNat = 0 := by omega
          rw [hz] at hs
          cases f with
          | zero => exact hs.2
          | succ f =>
            rcases hs with ⟨_, h⟩ | ⟨h, _⟩
            · exact h
            · exact absurd rfl h
        clear hs
        subst hp
        obtain ⟨-, g45, -, -, ⟨q4, c40, c41, c42, f40, f41, f42⟩, ⟨q5, c50, c51, c52, f50, f51, f52⟩, -, hbel⟩ := hR
        have hne : ¬ b5 = w.heap.size + 1 := by omega
        have HBel : Hid (Below w.heap.size w wr) := hbel
        clear hbel
        go_wp2_with fail
        refine bodyPost_ret (v := .agg #[.float .f64 p.1, .float .f64 p.2.1, .int .i64 p.2.2]) (by simp [results, Yba.results10, go_sem, c40, c41, c42]) rfl ⟨rfl, ?_⟩
        exact Below.set3 HBel.out (by omega) _ _ _
end Go.Proofs.Ybulkife
