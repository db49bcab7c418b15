/-
  Powers of two: what scaledPow comes to; the law's walk.
-/
import Derived.Test.YbulkifeOut
import Derived.Test.YbulkifeSmallPlain
namespace Go.Proofs.Ybulkife
set_option linter.unusedVariables false
set_option linter.unusedSimpArgs false
open Go.RowKit Ieee
attribute [local go_sem] run_store_float

/-- The scaled number is 2^v. -/
def Val (c : T3) (v : Int) : Prop := ∃ (t : Nat) (e : Int), c = (Fl.W t, 0, e) ∧ 623 ≤ t ∧ t ≤ 1423 ∧ (t : Int) - 1023 + e = v

theorem inRB_W (u : Nat) (h1 : 623 ≤ u) (h2 : u ≤ 1423) : inRB (Fl.W u) = true := by
  have a : absW (Fl.W u) = Fl.W u := absW_W u (by omega)
  have g1 := ord_ge u 623 (by omega) (by omega) (by omega) (by omega)
  rw [show Fl.W 623 = 2805742567851819008 from rfl, decide_eq_true h1] at g1
  have g2 : (double.order (Fl.W u) 6408622269748215808 == some .lt || double.order (Fl.W u) 6408622269748215808 == some .eq) = true := by
    rw [show (6408622269748215808 : Nat) = Fl.W 1423 from rfl, ord_lt u 1423 (by omega) (by omega) (by omega) (by omega), ord_eq u 1423 (by omega) (by omega) (by omega) (by omega)]
    rcases Nat.lt_or_ge u 1423 with h | h
    · rw [decide_eq_true h]; rfl
    · rw [decide_eq_true (by omega : u = 1423)]; simp
  have hl : Fl.W u < 18446744073709551616 := by have := Fl.W_lt u (by omega); omega
  unfold inRB
  rw [a, g1, g2, decide_eq_true hl]
  simp

theorem mul_val (a b : T3) (va vb : Int) (ha : Val a va) (hb : Val b vb) (h0 : -1152921504606846976 ≤ va) (h1 : va ≤ 1152921504606846976) (h2 : -1152921504606846976 ≤ vb) (h3 : vb ≤ 1152921504606846976) :
    ∃ c, SMulTo a b c ∧ Val c (va + vb) := by
  obtain ⟨s, e, rfl, s1, s2, hs⟩ := ha
  obtain ⟨t, f, rfl, t1, t2, ht⟩ := hb
  have k := Fl.tfMul_W s t (by omega) (by omega) (by omega) (by omega) (by omega) (by omega)
  by_cases hu : 623 ≤ s + t - 1023 ∧ s + t - 1023 ≤ 1423
  · refine ⟨(Fl.W (s + t - 1023), 0, e + f), ⟨_, _, k, ?_, ?_, norm3_in _ _ _ (inRB_W _ hu.1 hu.2)⟩, ⟨s + t - 1023, e + f, rfl, hu.1, hu.2, by omega⟩⟩
    · show -4611686018427387904 ≤ e + f; omega
    · show e + f ≤ 4611686018427387904; omega
  · refine ⟨(Fl.W 1022, 0, e + f + (((s + t - 1023 : Nat) : Int) - 1022)), ⟨_, _, k, ?_, ?_, fun w => norm_out (s + t - 1023) (e + f) w (by omega) (by omega) (by omega) (by omega) (by omega)⟩, ⟨1022, _, rfl, by omega, by omega, by omega⟩⟩
    · show -4611686018427387904 ≤ e + f; omega
    · show e + f ≤ 4611686018427387904; omega

theorem spow_val : ∀ (f : Nat) (p b : T3) (vp vb : Int) (P B k : Nat), Val p vp → Val b vb → -(P : Int) ≤ vp → vp ≤ P → -(B : Int) ≤ vb → vb ≤ B → P + B * 2 ^ f ≤ 1152921504606846976 + B → k < 2 ^ f →
    ∃ r, SPow f p b k r ∧ Val r (vp + vb * k)
  | 0, p, b, vp, vb, P, B, k, hp, hb, p0, p1, b0, b1, hB, hk => by
    have : k = 0 := by simpa using hk
    subst this
    exact ⟨p, ⟨rfl, rfl⟩, by simpa using hp⟩
  | f + 1, p, b, vp, vb, P, B, k, hp, hb, p0, p1, b0, b1, hB, hk => by
    by_cases h0 : k = 0
    · subst h0
      exact ⟨p, Or.inl ⟨rfl, rfl⟩, by simpa using hp⟩
    · have e2 : B * 2 ^ (f + 1) = 2 * B * 2 ^ f := by rw [Nat.pow_succ, ← Nat.mul_assoc, Nat.mul_right_comm, Nat.mul_comm B 2]
      have e3 : 2 * B ≤ 2 * B * 2 ^ f := Nat.le_mul_of_pos_right _ (Nat.two_pow_pos f)
      have hk' : k / 2 < 2 ^ f := by rw [Nat.pow_succ] at hk; omega
      obtain ⟨b', hbm, hbv⟩ := mul_val b b vb vb hb hb (by omega) (by omega) (by omega) (by omega)
      by_cases ho : k % 2 = 1
      · obtain ⟨p', hpm, hpv⟩ := mul_val p b vp vb hp hb (by omega) (by omega) (by omega) (by omega)
        obtain ⟨r, hr, hrv⟩ := spow_val f p' b' (vp + vb) (vb + vb) (P + B) (2 * B) (k / 2) hpv hbv (by omega) (by omega) (by omega) (by omega) (by omega) hk'
        refine ⟨r, Or.inr ⟨h0, p', b', by rw [if_pos ho]; exact hpm, hbm, hr⟩, ?_⟩
        have : vp + vb + (vb + vb) * ((k / 2 : Nat) : Int) = vp + vb * (k : Int) := by
          have hk2 : (k : Int) = 2 * ((k / 2 : Nat) : Int) + 1 := by omega
          rw [hk2, Int.mul_add, Int.add_mul]
          have : vb * (2 * ((k / 2 : Nat) : Int)) = vb * ((k / 2 : Nat) : Int) + vb * ((k / 2 : Nat) : Int) := by rw [← Int.mul_add]; congr 1; omega
          omega
        rwa [this] at hrv
      · obtain ⟨r, hr, hrv⟩ := spow_val f p b' vp (vb + vb) P (2 * B) (k / 2) hp hbv (by omega) (by omega) (by omega) (by omega) (by omega) hk'
        refine ⟨r, Or.inr ⟨h0, p, b', by rw [if_neg ho], hbm, hr⟩, ?_⟩
        have : vp + (vb + vb) * ((k / 2 : Nat) : Int) = vp + vb * (k : Int) := by
          have hk2 : (k : Int) = 2 * ((k / 2 : Nat) : Int) := by omega
          rw [hk2, Int.add_mul]
          have : vb * (2 * ((k / 2 : Nat) : Int)) = vb * ((k / 2 : Nat) : Int) + vb * ((k / 2 : Nat) : Int) := by rw [← Int.mul_add]; congr 1; omega
          omega
        rwa [this] at hrv

theorem spow_two (a : Int) (k : Nat) (h0 : -60 ≤ a) (h1 : a ≤ 60) (hk : k ≤ 1099511627776) :
    ∃ (t : Nat) (e : Int), SPow 41 (4607182418800017408, 0, 0) (Fl.W (1023 + a).toNat, 0, 0) k (Fl.W t, 0, e) ∧ 623 ≤ t ∧ t ≤ 1423 ∧ (t : Int) - 1023 + e = a * k := by
  obtain ⟨r, hr, t, e, rfl, t1, t2, ht⟩ := spow_val 41 (4607182418800017408, 0, 0) (Fl.W (1023 + a).toNat, 0, 0) 0 a 0 60 k ⟨1023, 0, rfl, by omega, by omega, by omega⟩ ⟨(1023 + a).toNat, 0, rfl, by omega, by omega, by omega⟩
    (by omega) (by omega) (by omega) (by omega) (by omega) (by omega)
  exact ⟨t, e, hr, t1, t2, by omega⟩

theorem tmod61 (a : Int) (h0 : -128 ≤ a) (h1 : a ≤ 127) : -60 ≤ a.tmod 61 ∧ a.tmod 61 ≤ 60 := by
  rw [Int.tmod_eq_emod]; split <;> omega

theorem two_big (a8 k : Int) (w : World) (hk : 1099511627776 < k) :
    Calls Yba.prog 7 #[.int .i8 a8, .int .i64 k] w fun e w' => e = .returned (.bool true) ∧ Below w.heap.size w w' := by
  go_enter Yba.func7, Yba.ntmps7
  go_wp2_with fail
  go_ret
  exact ⟨rfl, Below.refl _ _⟩

theorem Ldexp_one (a : Int) (w : World) (h0 : -60 ≤ a) (h1 : a ≤ 60) : Calls Yba.prog 11 #[.float .f64 4607182418800017408, .int .i64 a] w fun e w' => e = .returned (.float .f64 (Fl.W (1023 + a).toNat)) ∧ w' = w :=
  Ldexp_W 1023 (1023 + a).toNat a w (by omega) (by omega) (by omega) (by omega) (by omega)

theorem ak_bd (a : Int) (k : Nat) (h0 : -60 ≤ a) (h1 : a ≤ 60) (hk : (k : Int) ≤ 1099511627776) : -65970697666560 ≤ a * k ∧ a * k ≤ 65970697666560 := by
  have hk0 : (0 : Int) ≤ (k : Int) := by omega
  have a1 := Int.mul_le_mul_of_nonneg_right h0 hk0
  have a2 := Int.mul_le_mul_of_nonneg_right h1 hk0
  omega

set_option maxHeartbeats 800000 in
theorem two_pos (a8 a : Int) (k : Nat) (w : World) (ha : a8.tmod 61 = a) (ha0 : -128 ≤ a8) (ha1 : a8 ≤ 127) (hk0 : (0 : Int) < (k : Int)) (hk1 : (k : Int) ≤ 1099511627776) :
    Calls Yba.prog 7 #[.int .i8 a8, .int .i64 k] w fun e w' => e = .returned (.bool true) ∧ Below w.heap.size w w' := by
  have hb := tmod61 a8 ha0 ha1
  rw [ha] at hb
  obtain ⟨hb0, hb1⟩ := hb
  obtain ⟨t, x, hs, t1, t2, ht⟩ := spow_two a k hb0 hb1 (by omega)
  obtain ⟨p0, p1⟩ := ak_bd a k hb0 hb1 hk1
  have x0 : -65970697667000 ≤ x := by omega
  have x1 : x ≤ 65970697667000 := by omega
  have hw : ((t : Int) - 1023 + x == a * (k : Int)) = true := by rw [ht]; simp
  have o2 : (FloatKind.f64.format.order 0 0 == some .eq) = true := by decide +kernel
  have j0 : -400 ≤ (t : Int) - 1023 := by omega
  have j1 : (t : Int) - 1023 ≤ 400 := by omega
  have HS : Hid (SPow 41 (4607182418800017408, 0, 0) (Fl.W (1023 + a).toNat, 0, 0) ((k : Int)).toNat (Fl.W t, 0, x)) := by rw [Int.toNat_natCast]; exact hs
  have hn : Norm3 (Fl.W (1023 + a).toNat) 0 0 (Fl.W (1023 + a).toNat, 0, 0) := norm3_in _ _ _ (inRB_W _ (by omega) (by omega))
  have HN : Hid (Norm3 (Fl.W (1023 + a).toNat) 0 0 (Fl.W (1023 + a).toNat, 0, 0)) := hn
  clear hs hn ht
  go_enter Yba.func7, Yba.ntmps7
  go_wp2_with fail
  refine (Ldexp_one a _ hb0 hb1).mono ?_
  rintro e w' ⟨rfl, rfl⟩
  go_wp2_with fail
  refine (spow_any 41 _ _ (k : Int) _ (Fl.W t, 0, x) _ (by omega) (by omega) HN.out HS.out).mono ?_
  rintro e w1 ⟨rfl, hb1⟩
  dsimp only
  go_wp2_with fail
  refine (log2_W t _ (by omega) (by omega)).mono ?_
  rintro e w2 ⟨rfl, rfl⟩
  go_wp2_with fail
  go_ret
  exact ⟨rfl, hb1.alloc hb1.size _⟩

set_option maxHeartbeats 800000 in
theorem two_nonpos (a8 a k : Int) (w : World) (ha : a8.tmod 61 = a) (ha0 : -128 ≤ a8) (ha1 : a8 ≤ 127) (hk0 : -9223372036854775808 ≤ k) (hk1 : k ≤ 0) :
    Calls Yba.prog 7 #[.int .i8 a8, .int .i64 k] w fun e w' => e = .returned (.bool true) ∧ Below w.heap.size w w' := by
  have hb := tmod61 a8 ha0 ha1
  rw [ha] at hb
  obtain ⟨hb0, hb1⟩ := hb
  have o2 : (FloatKind.f64.format.order 0 0 == some .eq) = true := by decide +kernel
  have HS : Hid (SPow 0 (4607182418800017408, 0, 0) (Fl.W (1023 + a).toNat, 0, 0) k.toNat (Fl.W 1023, 0, 0)) := ⟨by omega, rfl⟩
  have hn : Norm3 (Fl.W (1023 + a).toNat) 0 0 (Fl.W (1023 + a).toNat, 0, 0) := norm3_in _ _ _ (inRB_W _ (by omega) (by omega))
  have HN : Hid (Norm3 (Fl.W (1023 + a).toNat) 0 0 (Fl.W (1023 + a).toNat, 0, 0)) := hn
  clear hn
  go_enter Yba.func7, Yba.ntmps7
  go_wp2_with fail
  refine (Ldexp_one a _ hb0 hb1).mono ?_
  rintro e w' ⟨rfl, rfl⟩
  go_wp2_with fail
  refine (spow_any 0 _ _ k _ (Fl.W 1023, 0, 0) _ (by omega) (by omega) HN.out HS.out).mono ?_
  rintro e w1 ⟨rfl, hb1⟩
  dsimp only
  go_wp2_with fail
  refine (log2_W 1023 _ (by omega) (by omega)).mono ?_
  rintro e w2 ⟨rfl, rfl⟩
  go_wp2_with fail
  go_ret
  exact ⟨rfl, hb1.alloc hb1.size _⟩
end Go.Proofs.Ybulkife
