/-
  slices.Sort[[]float64,float64] over pdqsortOrdered's contract.
  (Turned to this program's float64 instance from the kit's Derived/Sort/WalkA14.)
-/
import Derived.Test.YbulkilqBits
import Derived.Sort.WalkA14
namespace Go.Proofs.Ybulkilq
set_option linter.unusedVariables false
set_option linter.unusedSimpArgs false
open Go.RowKit Go.Sort

/-- pdqsortOrdered[float64]'s contract. -/
def PdqF (fb : Int → Nat) (ltq : Int → Int → Bool) : Prop := ∀ (blk off cap a b limit : Nat) (d : Array Int) (w : World), Holds (encOf fb) w blk off d → blk < w.heap.size → a ≤ b → b ≤ d.size → d.size < 4611686018427387904 → limit < 4611686018427387904 → Go.Sort.Below ltq a b d →
  Calls Yba.prog 10 #[.slice (some ⟨blk, off, none⟩) d.size cap, .int .i64 a, .int .i64 b, .int .i64 limit] w fun e w' =>
    e = .returned (.tuple #[]) ∧ ∃ n os, w' = grow (putRow (encOf fb) (Sort.ahead w n) blk off (Sort.pdq ltq d a b limit true true)) os

set_option maxRecDepth 100000 in
theorem sort_top {fb : Int → Nat} {ltq : Int → Int → Bool} (hpdq : PdqF fb ltq) (blk off cap : Nat) (d : Array Int) (w : World) (hH : Holds (encOf fb) w blk off d) (hblk : blk < w.heap.size) (hsz : d.size < 4611686018427387904) :
    Calls Yba.prog 9 #[.slice (some ⟨blk, off, none⟩) d.size cap] w fun e w' => e = .returned (.tuple #[]) ∧ ∃ n os, w' = grow (putRow (encOf fb) (Sort.ahead w n) blk off (Sort.sort ltq d)) os := by
  have HH : Hid (Holds (encOf fb) w blk off d) := hH
  clear hH
  have hLen : ∀ w, Calls Yba.prog 11 #[.int .u64 (d.size : Int)] w fun e w' => e = .returned (.int .i64 (bitsLen d.size : Nat)) ∧ w' = w := fun w => by
    have h := bits_Len (d.size : Int) w (by omega) (by omega)
    rwa [Int.toNat_natCast, bitLen_eq _ (by omega)] at h
  have hk : bitsLen d.size ≤ 62 := (bitsLen_le_iff d.size 62).2 (by omega)
  go_enter Yba.func9, Yba.ntmps9
  go_wp2_with (first
    | (go_at_call 11; refine (hLen _).mono ?_; rintro e w' ⟨rfl, rfl⟩)
    | (go_at_call 10; refine (hpdq blk off cap 0 d.size (bitsLen d.size) d _ (by exact HH.out) (by exact hblk) (Nat.zero_le _) (Nat.le_refl _) hsz (by omega) (Or.inl rfl)).mono ?_; rintro e w' ⟨rfl, n, os, rfl⟩))
  go_end0
  exact ⟨rfl, n, os, rfl⟩
end Go.Proofs.Ybulkilq
