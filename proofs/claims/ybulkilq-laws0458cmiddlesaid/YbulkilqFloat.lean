/-
  Plain facts on the doubles of the model (no Go in sight): rounding hangs on the value alone, what is exact stays exact, 1 * x = x.
-/
import Ieee.Arith
import Derived.Laws.FloatBits
namespace Go.Proofs.Ybulkilq.Fl
open Ieee

theorem log2_shift (m s : Nat) (h : m ≠ 0) : (m * 2 ^ s).log2 = m.log2 + s := by
  have hp : 0 < 2 ^ s := Nat.two_pow_pos s
  have h1 : m * 2 ^ s ≠ 0 := by
    have : 0 < m * 2 ^ s := Nat.mul_pos (Nat.pos_of_ne_zero h) hp
    omega
  rw [Nat.log2_eq_iff h1]
  have a := Nat.log2_self_le h
  have b := @Nat.lt_log2_self m
  constructor
  · rw [Nat.pow_add]; exact Nat.mul_le_mul_right _ a
  · rw [show m.log2 + s + 1 = (m.log2 + 1) + s by omega, Nat.pow_add]
    exact Nat.mul_lt_mul_of_pos_right b hp

theorem cut_zero_drop (neg : Bool) (n : Nat) : Toward.even.cut neg n 0 = n := by
  simp [Toward.cut, Nat.mod_one]

theorem cut_scale (neg : Bool) (n d s : Nat) : Toward.even.cut neg (n * 2 ^ s) (d + s) = Toward.even.cut neg n d := by
  have hp : 0 < 2 ^ s := Nat.two_pow_pos s
  by_cases h : n = 0
  · subst h
    simp only [Toward.cut, Nat.zero_mul, Nat.zero_div, Nat.zero_mod, Nat.one_shiftLeft]
    have h1 : ∀ k, (2 ^ k == 2 * 0) = false := by
      intro k
      have : 0 < 2 ^ k := Nat.two_pow_pos k
      simp
    simp
  · have e : min (d + s) ((n * 2 ^ s).log2 + 2) = min d (n.log2 + 2) + s := by
      rw [log2_shift n s h]; omega
    simp only [Toward.cut, e, Nat.one_shiftLeft]
    generalize min d (n.log2 + 2) = g
    rw [Nat.pow_add, Nat.mul_div_mul_right _ _ hp, Nat.mul_mod_mul_right]
    have e1 : decide (2 ^ g * 2 ^ s < 2 * (n % 2 ^ g * 2 ^ s)) = decide (2 ^ g < 2 * (n % 2 ^ g)) := by
      rw [← Nat.mul_assoc, decide_eq_decide]
      exact Nat.mul_lt_mul_right hp
    have e2 : (2 ^ g * 2 ^ s == 2 * (n % 2 ^ g * 2 ^ s)) = (2 ^ g == 2 * (n % 2 ^ g)) := by
      rw [← Nat.mul_assoc, Bool.eq_iff_iff]
      simp only [beq_iff_eq]
      exact Nat.mul_left_inj (by omega)
    rw [e1, e2]

theorem cut_exact (neg : Bool) (n d : Nat) : Toward.even.cut neg (n * 2 ^ d) d = n := by
  have h := cut_scale neg n 0 d
  rw [Nat.zero_add] at h
  rw [h, cut_zero_drop]

theorem nearest_scale (f : Format) (neg : Bool) (mag s : Nat) (place : Int) : f.nearest neg (mag * 2 ^ s) (place - s) = f.nearest neg mag place := by
  have hp : 0 < 2 ^ s := Nat.two_pow_pos s
  by_cases h : mag = 0
  · subst h; simp [Format.nearest]
  · have h1 : mag * 2 ^ s ≠ 0 := by
      have : 0 < mag * 2 ^ s := Nat.mul_pos (Nat.pos_of_ne_zero h) hp
      omega
    unfold Format.nearest
    rw [if_neg h, if_neg h1, log2_shift mag s h]
    have el : place - (s : Int) + ((mag.log2 + s : Nat) : Int) - (f.fractionBits : Int) = place + (mag.log2 : Int) - (f.fractionBits : Int) := by omega
    simp only [el]
    generalize max (place + (mag.log2 : Int) - (f.fractionBits : Int)) f.leastPlace = last
    have ek : Toward.even.cut neg ((mag * 2 ^ s) <<< (place - (s : Int) - last).toNat) (last - (place - (s : Int))).toNat = Toward.even.cut neg (mag <<< (place - last).toNat) (last - place).toNat := by
      simp only [Nat.shiftLeft_eq]
      by_cases c1 : last ≤ place - s
      · have a1 : (last - (place - (s : Int))).toNat = 0 := by omega
        have a2 : (last - place).toNat = 0 := by omega
        rw [a1, a2, cut_zero_drop, cut_zero_drop, Nat.mul_assoc, ← Nat.pow_add]
        congr 2; omega
      · by_cases c2 : last ≤ place
        · have a1 : (place - (s : Int) - last).toNat = 0 := by omega
          have a2 : (last - place).toNat = 0 := by omega
          rw [a1, a2, cut_zero_drop, Nat.pow_zero, Nat.mul_one]
          have a3 : s = (place - last).toNat + (last - (place - (s : Int))).toNat := by omega
          have a4 : mag * 2 ^ s = mag * 2 ^ (place - last).toNat * 2 ^ (last - (place - (s : Int))).toNat := by
            rw [Nat.mul_assoc, ← Nat.pow_add, ← a3]
          rw [a4, cut_exact]
        · have a1 : (place - (s : Int) - last).toNat = 0 := by omega
          have a2 : (place - last).toNat = 0 := by omega
          have a3 : (last - (place - (s : Int))).toNat = (last - place).toNat + s := by omega
          rw [a1, a2, a3, Nat.pow_zero, Nat.mul_one, Nat.mul_one, cut_scale]
    rw [ek]

theorem binade_eq : double.binade = 4503599627370496 := rfl
theorem least_eq : double.leastPlace = -1074 := rfl
theorem inf_eq : double.infRung = 9218868437227405312 := rfl
theorem sign_eq : double.signWeight = 9223372036854775808 := rfl

theorem word_parts (neg : Bool) (rung : Nat) (h : rung < 9223372036854775808) : (double.word neg rung / 9223372036854775808 % 2 == 1) = neg ∧ double.word neg rung % 9223372036854775808 = rung := by
  unfold Format.word
  rw [sign_eq]
  cases neg
  · simp only [Bool.false_eq_true, if_false]
    constructor
    · rw [Nat.div_eq_of_lt h]; rfl
    · exact Nat.mod_eq_of_lt h
  · simp only [if_true]
    constructor
    · have : (9223372036854775808 + rung) / 9223372036854775808 = 1 := by omega
      rw [this]; rfl
    · omega

theorem read_word (neg : Bool) (rung : Nat) (h : rung < 9223372036854775808) : double.read (double.word neg rung) =
    if rung < 4503599627370496 then .number neg rung (-1074)
    else if rung < 9218868437227405312 then .number neg (4503599627370496 + rung % 4503599627370496) (-1074 + ((rung / 4503599627370496 - 1 : Nat) : Int))
    else if rung = 9218868437227405312 then .infinity neg
    else .nan neg (rung - 9218868437227405312) := by
  obtain ⟨a, b⟩ := word_parts neg rung h
  unfold Format.read
  rw [sign_eq, binade_eq, inf_eq, least_eq, a, b]

theorem word_of (x : Nat) (h : x < 18446744073709551616) : ∃ neg rung, rung < 9223372036854775808 ∧ x = double.word neg rung := by
  refine ⟨x / 9223372036854775808 == 1, x % 9223372036854775808, by omega, ?_⟩
  unfold Format.word
  rw [sign_eq]
  by_cases c : x / 9223372036854775808 = 1
  · rw [if_pos (by simp [c])]; omega
  · rw [if_neg (by simp [c])]; omega

/-- A normal number, read. -/
theorem read_norm (neg : Bool) (m t : Nat) (h1 : 4503599627370496 ≤ m) (h2 : m < 9007199254740992) (ht : t ≤ 2045) : double.read (double.word neg (t * 4503599627370496 + m)) = .number neg m ((t : Int) - 1074) := by
  rw [read_word _ _ (by omega), if_neg (by omega), if_pos (by omega)]
  have e1 : 4503599627370496 + (t * 4503599627370496 + m) % 4503599627370496 = m := by omega
  have e2 : -1074 + (((t * 4503599627370496 + m) / 4503599627370496 - 1 : Nat) : Int) = (t : Int) - 1074 := by omega
  rw [e1, e2]

/-- A number that the format has as a normal one, written. -/
theorem nearest_norm (neg : Bool) (m t : Nat) (h1 : 4503599627370496 ≤ m) (h2 : m < 9007199254740992) (ht : t ≤ 2045) : double.nearest neg m ((t : Int) - 1074) = double.word neg (t * 4503599627370496 + m) := by
  unfold Format.nearest
  have hl : m.log2 = 52 := (Nat.log2_eq_iff (by omega)).2 ⟨h1, h2⟩
  have hf : (double.fractionBits : Int) = 52 := rfl
  rw [if_neg (by omega), hl, least_eq, hf, binade_eq, inf_eq]
  have e1 : max ((t : Int) - 1074 + ((52 : Nat) : Int) - 52) (-1074) = (t : Int) - 1074 := by omega
  rw [e1]
  have e2 : ((t : Int) - 1074 - ((t : Int) - 1074)).toNat = 0 := by omega
  have e3 : ((t : Int) - 1074 - -1074).toNat = t := by omega
  simp only [e2, cut_zero_drop, Nat.shiftLeft_zero, e3]
  congr 1; omega

theorem nearest_sub (neg : Bool) (m : Nat) (h2 : m < 4503599627370496) : double.nearest neg m (-1074) = double.word neg m := by
  unfold Format.nearest
  by_cases h0 : m = 0
  · subst h0; rfl
  have hl : m.log2 < 52 := (Nat.log2_lt h0).2 h2
  have hf : (double.fractionBits : Int) = 52 := rfl
  rw [if_neg h0, least_eq, hf, binade_eq, inf_eq]
  have e1 : max ((-1074 : Int) + (m.log2 : Int) - 52) (-1074) = -1074 := by omega
  rw [e1]
  have e2 : ((-1074 : Int) - -1074).toNat = 0 := by omega
  simp only [e2, cut_zero_drop, Nat.shiftLeft_zero]
  congr 1; omega

/-- What is read is written back. -/
theorem nearest_read (x : Nat) (hx : x < 18446744073709551616) (neg : Bool) (m : Nat) (e : Int) (h : double.read x = .number neg m e) : double.nearest neg m e = x := by
  obtain ⟨n, r, hr, rfl⟩ := word_of x hx
  rw [read_word _ _ hr] at h
  split at h
  · simp only [Datum.number.injEq] at h
    obtain ⟨rfl, rfl, rfl⟩ := h
    exact nearest_sub _ _ (by assumption)
  · split at h
    · simp only [Datum.number.injEq] at h
      obtain ⟨rfl, rfl, rfl⟩ := h
      have e1 : -1074 + ((r / 4503599627370496 - 1 : Nat) : Int) = ((r / 4503599627370496 - 1 : Nat) : Int) - 1074 := by omega
      rw [e1, nearest_norm _ _ _ (by omega) (by omega) (by omega)]
      congr 1; omega
    · split at h <;> cases h

def one : Nat := 4607182418800017408

theorem read_one : double.read one = .number false 4503599627370496 (-52) := by decide +kernel

theorem mul_one_left (x : Nat) (hx : x < 18446744073709551616) (hn : (double.read x).isNaN = false) : double.mul one x = some x := by
  unfold Format.mul
  rw [read_one]
  cases h : double.read x with
  | number neg m e =>
    simp only [Datum.product, Option.map, Format.write, Bool.false_xor]
    have e1 : (4503599627370496 : Nat) * m = m * 2 ^ 52 := by omega
    have e2 : (-52 : Int) + e = e - ((52 : Nat) : Int) := by omega
    rw [e1, e2, nearest_scale, nearest_read x hx neg m e h]
  | infinity neg =>
    simp only [Datum.product]
    rw [if_neg (by decide)]
    simp only [Option.map, Format.write, Bool.xor_false]
    obtain ⟨n, r, hr, rfl⟩ := word_of x hx
    rw [read_word _ _ hr] at h
    split at h
    · cases h
    · split at h
      · cases h
      · split at h
        · simp only [Datum.infinity.injEq] at h; subst h; subst r; rfl
        · cases h
  | nan neg t => rw [h] at hn; cases hn

theorem notNaN_word (neg : Bool) (rung : Nat) (h : rung ≤ 9218868437227405312) : (double.read (double.word neg rung)).isNaN = false := by
  rw [read_word _ _ (by omega)]
  split
  · rfl
  · split
    · rfl
    · rw [if_pos (by omega)]; rfl

theorem notNaN_nearest (neg : Bool) (m : Nat) (e : Int) : (double.read (double.nearest neg m e)).isNaN = false := by
  unfold Format.nearest
  dsimp only
  split
  · exact notNaN_word _ _ (by omega)
  · exact notNaN_word _ _ (by rw [inf_eq]; omega)

theorem order_self (x : Nat) (hn : (double.read x).isNaN = false) : double.order x x = some .eq := by
  unfold Format.order
  cases h : double.read x with
  | number neg m e => simp [Datum.order]
  | infinity neg => simp [Datum.order]
  | nan neg t => rw [h] at hn; cases hn

theorem order_self_nan (x : Nat) (hn : (double.read x).isNaN = true) : double.order x x = none := by
  unfold Format.order
  cases h : double.read x with
  | number neg m e => rw [h] at hn; cases hn
  | infinity neg => rw [h] at hn; cases hn
  | nan neg t => simp [Datum.order]

theorem square (x : Nat) (hn : (double.read x).isNaN = false) : ∃ r, double.mul x x = some r ∧ r < 18446744073709551616 ∧ (double.read r).isNaN = false := by
  cases h : double.read x with
  | number neg m e =>
    have hm : double.mul x x = some (double.nearest (neg ^^ neg) (m * m) (e + e)) := by
      unfold Format.mul; rw [h]; rfl
    exact ⟨_, hm, double.mul_lt hm, notNaN_nearest _ _ _⟩
  | infinity neg =>
    have hm : double.mul x x = some (double.word (neg ^^ neg) double.infRung) := by
      unfold Format.mul; rw [h]; rfl
    exact ⟨_, hm, double.mul_lt hm, notNaN_word _ _ (by rw [inf_eq]; omega)⟩
  | nan neg t => rw [h] at hn; cases hn

/-- A whole number as a word (the nearest one). -/
def F (n : Int) : Nat := double.nearest (decide (n < 0)) n.natAbs 0

/-- What the word of a whole number below 2^53 stands for: read, and scaled to any place at or below its own, it is the number. -/
theorem read_F (a : Int) (h0 : -9007199254740992 < a) (h1 : a < 9007199254740992) :
    ∃ (m : Nat) (i : Int), double.read (F a) = .number (decide (a < 0)) m i ∧ i ≤ 0 ∧ ∀ base, base ≤ i → signed (decide (a < 0)) m (i - base).toNat = a * 2 ^ (-base).toNat := by
  by_cases hz : a = 0
  · subst hz
    refine ⟨0, -1074, by decide +kernel, by omega, fun base hb => ?_⟩
    simp [signed]
  · have hn : a.natAbs ≠ 0 := by omega
    have hl : a.natAbs.log2 < 53 := (Nat.log2_lt hn).2 (by omega)
    obtain ⟨l, hl'⟩ : ∃ l, l = a.natAbs.log2 := ⟨_, rfl⟩
    have hlo : 2 ^ l ≤ a.natAbs := by rw [hl']; exact Nat.log2_self_le hn
    have hhi : a.natAbs < 2 ^ (l + 1) := by rw [hl']; exact Nat.lt_log2_self
    have e52 : 2 ^ l * 2 ^ (52 - l) = 4503599627370496 := by rw [← Nat.pow_add, show l + (52 - l) = 52 by omega]
    have e53 : 2 ^ (l + 1) * 2 ^ (52 - l) = 9007199254740992 := by rw [← Nat.pow_add, show l + 1 + (52 - l) = 53 by omega]
    have hp : 0 < 2 ^ (52 - l) := Nat.two_pow_pos _
    have m1 : 4503599627370496 ≤ a.natAbs * 2 ^ (52 - l) := by rw [← e52]; exact Nat.mul_le_mul_right _ hlo
    have m2 : a.natAbs * 2 ^ (52 - l) < 9007199254740992 := by rw [← e53]; exact Nat.mul_lt_mul_of_pos_right hhi hp
    have hF : F a = double.word (decide (a < 0)) ((1022 + l) * 4503599627370496 + a.natAbs * 2 ^ (52 - l)) := by
      unfold F
      rw [← nearest_scale double _ a.natAbs (52 - l) 0, ← nearest_norm _ _ _ m1 m2 (by omega)]
      congr 1
      omega
    refine ⟨a.natAbs * 2 ^ (52 - l), ((1022 + l : Nat) : Int) - 1074, ?_, by omega, fun base hb => ?_⟩
    · rw [hF, read_norm _ _ _ m1 m2 (by omega)]
    · have e : a.natAbs * 2 ^ (52 - l) * 2 ^ (((1022 + l : Nat) : Int) - 1074 - base).toNat = a.natAbs * 2 ^ (-base).toNat := by
        rw [Nat.mul_assoc, ← Nat.pow_add]; congr 2; omega
      unfold signed
      rw [Nat.shiftLeft_eq, e]
      by_cases hneg : a < 0
      · rw [decide_eq_true hneg, if_pos rfl, Int.natCast_mul, ← Int.neg_mul, show -((a.natAbs : Nat) : Int) = a by omega]
        congr 1
      · rw [decide_eq_false hneg, if_neg (by decide), Int.natCast_mul, show ((a.natAbs : Nat) : Int) = a by omega]
        congr 1

theorem order_F (a b : Int) (ha0 : -9007199254740992 < a) (ha1 : a < 9007199254740992) (hb0 : -9007199254740992 < b) (hb1 : b < 9007199254740992) : double.order (F a) (F b) = some (compare a b) := by
  obtain ⟨m, i, ra, ia, va⟩ := read_F a ha0 ha1
  obtain ⟨n, j, rb, jb, vb⟩ := read_F b hb0 hb1
  unfold Format.order
  rw [ra, rb]
  simp only [Datum.order]
  rw [va (min i j) (by omega), vb (min i j) (by omega)]
  congr 1
  have hp : (0 : Int) < 2 ^ (-(min i j)).toNat := Int.pow_pos (by decide)
  rcases Int.lt_trichotomy a b with h | h | h
  · rw [Int.compare_eq_lt.2 h, Int.compare_eq_lt.2 (Int.mul_lt_mul_of_pos_right h hp)]
  · subst h; simp
  · rw [Int.compare_eq_gt.2 h, Int.compare_eq_gt.2 (Int.mul_lt_mul_of_pos_right h hp)]

theorem add_F (a b : Int) (ha0 : -9007199254740992 < a) (ha1 : a < 9007199254740992) (hb0 : -9007199254740992 < b) (hb1 : b < 9007199254740992) : double.add (F a) (F b) = some (F (a + b)) := by
  obtain ⟨m, i, ra, ia, va⟩ := read_F a ha0 ha1
  obtain ⟨n, j, rb, jb, vb⟩ := read_F b hb0 hb1
  unfold Format.add
  rw [ra, rb]
  simp only [Datum.sum, Option.map, Format.write]
  rw [va (min i j) (by omega), vb (min i j) (by omega), ← Int.add_mul]
  have hk : ((min i j : Int)) = 0 - (((-(min i j)).toNat : Nat) : Int) := by omega
  generalize (-(min i j)).toNat = k at hk
  have hp : (0 : Int) < 2 ^ k := Int.pow_pos (by decide)
  congr 1
  unfold F
  rw [hk]
  by_cases hz : a + b = 0
  · rw [hz, Int.zero_mul, if_pos rfl]
    have : (decide (a < 0) && decide (b < 0)) = false := by
      by_cases h : a < 0
      · rw [decide_eq_false (by omega : ¬ b < 0)]; simp
      · rw [decide_eq_false h]; rfl
    rw [this]
    simp [Format.nearest]
  · have hne : (a + b) * 2 ^ k ≠ 0 := Int.mul_ne_zero hz (by omega)
    rw [if_neg hne]
    have e1 : decide ((a + b) * 2 ^ k < 0) = decide (a + b < 0) := by
      rw [decide_eq_decide]
      constructor
      · intro h
        rcases Int.lt_or_le (a + b) 0 with c | c
        · exact c
        · have := Int.mul_nonneg c (Int.le_of_lt hp); omega
      · intro h
        exact Int.mul_neg_of_neg_of_pos h hp
    have e2 : ((a + b) * 2 ^ k).natAbs = (a + b).natAbs * 2 ^ k := by
      rw [Int.natAbs_mul, Int.natAbs_pow]; rfl
    rw [e1, e2, nearest_scale]

/-- A finite number by another that is not nought: never a NaN. -/
theorem div_F_two (c : Int) (h0 : -9007199254740992 < c) (h1 : c < 9007199254740992) : ∃ r, double.div (F c) 4611686018427387904 = some r ∧ double.order r r = some .eq := by
  obtain ⟨m, i, rc, _, _⟩ := read_F c h0 h1
  have e : double.read 4611686018427387904 = .number false 4503599627370496 (-51) := by decide +kernel
  have hd : ∃ mm ii, double.div (F c) 4611686018427387904 = some (double.nearest (decide (c < 0) ^^ false) mm ii) := by
    unfold Format.div
    rw [rc, e]
    simp only [Datum.quotient]
    rw [if_neg (by decide)]
    exact ⟨_, _, rfl⟩
  obtain ⟨mm, ii, hd⟩ := hd
  exact ⟨_, hd, order_self _ (notNaN_nearest _ _ _)⟩

end Go.Proofs.Ybulkilq.Fl
