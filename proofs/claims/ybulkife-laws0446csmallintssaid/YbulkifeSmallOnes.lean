/-
  The bases 0, 1 and -1 at every exponent.
-/
import Derived.Test.YbulkifeSmallPlain
namespace Go.Proofs.Ybulkife
set_option linter.unusedVariables false
set_option linter.unusedSimpArgs false
open Go.RowKit Ieee

def mOneW : Nat := 13830554455654793216
def one3 : T3 := (4607182418800017408, 0, 0)
def mOne3 : T3 := (13830554455654793216, 0, 0)
def zero3 : T3 := (0, 0, 0)

theorem m00 : SMulTo zero3 zero3 zero3 := smulB_sound (0, 0) (0, 0) (0, 0) (by decide +kernel)
theorem m10 : SMulTo one3 zero3 zero3 := smulB_sound (4607182418800017408, 0) (0, 0) (0, 0) (by decide +kernel)
theorem m11 : SMulTo one3 one3 one3 := smulB_sound (4607182418800017408, 0) (4607182418800017408, 0) (4607182418800017408, 0) (by decide +kernel)
theorem mm1 : SMulTo mOne3 one3 mOne3 := smulB_sound (13830554455654793216, 0) (4607182418800017408, 0) (13830554455654793216, 0) (by decide +kernel)
theorem m1m : SMulTo one3 mOne3 mOne3 := smulB_sound (4607182418800017408, 0) (13830554455654793216, 0) (13830554455654793216, 0) (by decide +kernel)
theorem mmm : SMulTo mOne3 mOne3 one3 := smulB_sound (13830554455654793216, 0) (13830554455654793216, 0) (4607182418800017408, 0) (by decide +kernel)

/-- Where the base is its own square and leaves the power as it is. -/
theorem spow_still (p b : T3) (h1 : SMulTo p b p) (h2 : SMulTo b b b) : ∀ (f k : Nat), k < 2 ^ f → SPow f p b k p
  | 0, k, h => ⟨by simpa using h, rfl⟩
  | f + 1, k, h => by
    by_cases h0 : k = 0
    · exact Or.inl ⟨h0, rfl⟩
    · refine Or.inr ⟨h0, p, b, ?_, h2, spow_still p b h1 h2 f (k / 2) (by rw [Nat.pow_succ] at h; omega)⟩
      split
      · exact h1
      · rfl

theorem spow_zero : ∀ (f k : Nat), k < 2 ^ f → k ≠ 0 → SPow f one3 zero3 k zero3
  | 0, k, h, h0 => absurd (by simpa using h) h0
  | f + 1, k, h, h0 => by
    by_cases ho : k % 2 = 1
    · refine Or.inr ⟨h0, zero3, zero3, by rw [if_pos ho]; exact m10, m00, spow_still zero3 zero3 m00 m00 f (k / 2) (by rw [Nat.pow_succ] at h; omega)⟩
    · refine Or.inr ⟨h0, one3, zero3, by rw [if_neg ho], m00, spow_zero f (k / 2) (by rw [Nat.pow_succ] at h; omega) (by omega)⟩

theorem spow_one (k : Nat) (h : k ≤ 9223372036854775807) : SPow 63 one3 one3 k one3 := spow_still _ _ m11 m11 63 k (by omega)

theorem spow_mone (k : Nat) (h : k ≤ 9223372036854775807) : SPow 64 one3 mOne3 k (if k % 2 = 1 then mOne3 else one3) := by
  by_cases h0 : k = 0
  · subst h0; exact Or.inl ⟨rfl, rfl⟩
  · by_cases ho : k % 2 = 1
    · rw [if_pos ho]
      exact Or.inr ⟨h0, mOne3, one3, by rw [if_pos ho]; exact m1m, mmm, spow_still _ _ mm1 m11 63 (k / 2) (by omega)⟩
    · rw [if_neg ho]
      exact Or.inr ⟨h0, one3, one3, by rw [if_neg ho], mmm, spow_still _ _ m11 m11 63 (k / 2) (by omega)⟩
end Go.Proofs.Ybulkife
