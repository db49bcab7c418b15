/-
  Small integer bases: the words that scaledPow comes to, reckoned by the kernel.
-/
import Derived.Test.YbulkifeSPow
namespace Go.Proofs.Ybulkife
set_option linter.unusedVariables false
set_option linter.unusedSimpArgs false
open Go.RowKit Ieee

def twoSumB (a b : Nat) : Option (Nat × Nat) :=
  match double.add a b with
  | none => none
  | some s => match double.sub s a with
    | none => none
    | some bb => match double.sub s bb with
      | none => none
      | some c1 => match double.sub a c1, double.sub b bb with
        | some c2, some c3 => match double.add c2 c3 with
          | none => none
          | some lo => some (s, lo)
        | _, _ => none

theorem twoSumB_sound (a b s lo : Nat) (h : twoSumB a b = some (s, lo)) : Nonempty (TwoSum a b s lo) := by
  unfold twoSumB at h
  split at h
  · cases h
  rename_i s' e1
  split at h
  · cases h
  rename_i bb e2
  split at h
  · cases h
  rename_i c1 e3
  split at h
  · rename_i c2 c3 e4 e5
    split at h
    · cases h
    rename_i l' e6
    cases h
    exact ⟨⟨bb, c1, c2, c3, e1, e2, e3, e4, e5, e6⟩⟩
  · cases h

def tfMulB (h1 l1 h2 l2 : Nat) : Option (Nat × Nat) :=
  match double.mul h1 h2 with
  | none => none
  | some p => match double.fma h1 h2 (negW p), double.mul h1 l2 with
    | some e, some m1 => match double.add e m1, double.mul l1 h2 with
      | some a1, some m2 => match double.add a1 m2 with
        | some a2 => twoSumB p a2
        | none => none
      | _, _ => none
    | _, _ => none

theorem tfMulB_sound (h1 l1 h2 l2 h l : Nat) (k : tfMulB h1 l1 h2 l2 = some (h, l)) : Nonempty (TfMul h1 l1 h2 l2 h l) := by
  unfold tfMulB at k
  split at k
  · cases k
  rename_i p e1
  split at k
  · rename_i e m1 e2 e3
    split at k
    · rename_i a1 m2 e4 e5
      split at k
      · rename_i a2 e6
        obtain ⟨t⟩ := twoSumB_sound _ _ _ _ k
        exact ⟨⟨p, e, m1, a1, m2, a2, e1, e2, e3, e4, e5, e6, t⟩⟩
      · cases k
    · cases k
  · cases k

/-- normalized hands it on. -/
def inRB (h : Nat) : Bool :=
  h == 0 || (decide (h < 18446744073709551616) && (double.order (absW h) 2805742567851819008 == some .gt || double.order (absW h) 2805742567851819008 == some .eq)
    && (double.order (absW h) 6408622269748215808 == some .lt || double.order (absW h) 6408622269748215808 == some .eq))

theorem norm3_in (h l : Nat) (x : Int) (k : inRB h = true) : Norm3 h l x (h, l, x) := by
  unfold inRB at k
  rw [Bool.or_eq_true] at k
  rcases k with k | k
  · have : h = 0 := by simpa using k
    subst this
    exact fun w => norm_zero l x w
  · rw [Bool.and_eq_true, Bool.and_eq_true] at k
    exact fun w => norm_in h l x w (of_decide_eq_true k.1.1) k.1.2 k.2

def smulB (a b : Nat × Nat) : Option (Nat × Nat) :=
  match tfMulB a.1 a.2 b.1 b.2 with
  | some c => if inRB c.1 then some c else none
  | none => none

theorem smulB_sound (a b c : Nat × Nat) (k : smulB a b = some c) : SMulTo (a.1, a.2, 0) (b.1, b.2, 0) (c.1, c.2, 0) := by
  unfold smulB at k
  split at k
  · rename_i d e1
    split at k
    · rename_i e2
      cases k
      obtain ⟨t⟩ := tfMulB_sound a.1 a.2 b.1 b.2 c.1 c.2 e1
      exact ⟨c.1, c.2, ⟨t⟩, by show (-4611686018427387904 : Int) ≤ 0 + 0; decide, by show (0 + 0 : Int) ≤ 4611686018427387904; decide, norm3_in c.1 c.2 _ e2⟩
    · cases k
  · cases k

def spowB : Nat → Nat × Nat → Nat × Nat → Nat → Option (Nat × Nat)
  | 0, p, _, k => if k = 0 then some p else none
  | f + 1, p, b, k =>
    if k = 0 then some p else
    match (if k % 2 = 1 then smulB p b else some p), smulB b b with
    | some p', some b' => spowB f p' b' (k / 2)
    | _, _ => none

theorem spowB_sound : ∀ (f : Nat) (p b : Nat × Nat) (k : Nat) (r : Nat × Nat), spowB f p b k = some r → SPow f (p.1, p.2, 0) (b.1, b.2, 0) k (r.1, r.2, 0)
  | 0, p, b, k, r, h => by
    unfold spowB at h
    split at h
    · rename_i e; cases h; exact ⟨e, rfl⟩
    · cases h
  | f + 1, p, b, k, r, h => by
    unfold spowB at h
    split at h
    · rename_i e; cases h; exact Or.inl ⟨e, rfl⟩
    · rename_i e
      split at h
      · rename_i p' b' e1 e2
        refine Or.inr ⟨e, (p'.1, p'.2, 0), (b'.1, b'.2, 0), ?_, smulB_sound _ _ _ e2, spowB_sound f p' b' (k / 2) r h⟩
        split at e1
        · rename_i ho
          rw [if_pos ho]; exact smulB_sound _ _ _ e1
        · rename_i ho
          rw [if_neg ho]; cases e1; rfl
      · cases h

def oneW : Nat := 4607182418800017408

def smallB (i k : Nat) : Bool :=
  let b : Int := (i : Int) - 15
  if b = 0 ∨ b = 1 ∨ b = -1 then true else
  if b ^ k > 9007199254740992 ∨ b ^ k < -9007199254740992 then true else
  match spowB 6 (oneW, 0) (floatOfInt .f64 b, 0) k with
  | some r => double.order r.1 (floatOfInt .f64 (b ^ k)) == some .eq && double.order r.2 0 == some .eq && inRB (floatOfInt .f64 b)
  | none => false

end Go.Proofs.Ybulkife
