/-
  slices.Sort[[]float64,float64] at rows of small whole numbers: the row then holds them sorted.
-/
import Derived.Test.YbulkilqIns
import Derived.Test.YbulkilqPar
import Derived.Test.YbulkilqPeq
import Derived.Test.YbulkilqPrt
import Derived.Test.YbulkilqBrk
import Derived.Test.YbulkilqPiv
import Derived.Test.YbulkilqPdq
import Derived.Test.YbulkilqTop
import Derived.Test.YbulkilqPlain
namespace Go.Proofs.Ybulkilq
open Go.Sort

theorem calleesF : CalleesF fb ltC where
  ins := insertionSort_f lessF
  brk := breakPatterns_f lessF
  piv := choosePivot_f lessF
  par := partialInsertionSort_f lessF
  peq := partitionEqualOrdered_f lessF
  prt := partitionOrdered_f lessF

theorem plainF : PlainF ltC where
  swo := swo_ltC
  ins := insertionSort_holds
  par := partialInsertionSort_holds
  prt := partition_holds _
  peq := partitionEqual_holds _
  pdq := pdq_sorts _

theorem pdqF : PdqF fb ltC := fun blk off cap a b limit d w hH hb hab hbd hsz hl hB =>
  pdqsort_f lessF calleesF plainF (b - a + 1) blk off cap a b limit d w (by omega) hH hb hab hbd hsz hl hB

/-- slices.Sort at the float row. -/
theorem sort_row (blk off cap : Nat) (d : Array Int) (w : World) (hH : Holds (encOf fb) w blk off d) (hblk : blk < w.heap.size) (hsz : d.size < 4611686018427387904)
    (hd : ∀ i, i < d.size → -40000 ≤ d[i]! ∧ d[i]! ≤ 40000) :
    Calls Yba.prog 9 #[.slice (some ⟨blk, off, none⟩) d.size cap] w fun e w' => e = .returned (.tuple #[]) ∧ ∃ n os, w' = grow (putRow (encOf fb) (Sort.ahead w n) blk off (Sort.insertionSort ltInt d 0 d.size)) os := by
  have h := sort_top pdqF blk off cap d w hH hblk hsz
  rwa [sorted_both d hd] at h
end Go.Proofs.Ybulkilq
