/-
  No cell of these rows narrows 'for every input' (looked for: loops, veiled, ifaces, maps, wideKeys, modest, calm, conditions, laid).
  DERIVED. THE GIVEN ROWS OF THIS SEAT. 5 by the template 'for every input the law returns true; each argument reads behind the call as it read before'; 0 by the template 'total and deterministic' (their statements: YbulkifeTotals.lean).
  GIVEN WITH THE SEED: the statements are not yours to turn. If you find one false, say at which input.
  Laid BY PROGRAM, IN A SANDBOX (cutbox-rows.mjs): the forced cells as the released guide's own fill.sh prints them over the translation 31c35f3b09805505… (all of the seat's roots in one cut). By AI agents, Wed Nov 11 2026. No macro, syntax, notation, axiom, sorry.
-/
import Derived.Test.YbulkifeChecked
import GoSem.Claim
import GoSem.ClaimJoined
import GoSem.ClaimMapViews
import Derived.JoinedTies
import Derived.KernelRfl
namespace Go.Proofs.Ybulkife
/- THE CELL 'sum', in the pinned program and in every row, IS THE sha256 OF THE DUMP (.gsa) THAT YbulkifeProg.lean LOADS. Nothing in Lean hashes anything: it is a label: what it is worth is what the hold of that sum in a sandbox is worth. -/
noncomputable def Yba.pinned : Pinned := { name := "ybulkife", sum := "31c35f3b09805505a6acb6ed7a2d2d455b2d12f2878c6a4b0f1a874eb23ab6ae", checked := Yba.checked }
namespace Rows
def none {H : Type} : Left H := { results := [], args := [] }

/-- 'analysis.LawS0446BExactSmall': WHATEVER THE INPUT: true; the input reads as it did. -/
def lawS0446BExactSmallSpec : ChangeSpec := { name := "lawS0446BExactSmall", fn := fun _ => fun
  | [d1, d2] => { results := [.lit (.bool true)], args := [d1, d2] }
  | _ => none }
def lawS0446BExactSmallRow : OpenClaim := { program := "ybulkife", sum := "31c35f3b09805505a6acb6ed7a2d2d455b2d12f2878c6a4b0f1a874eb23ab6ae", func := "example.com/quorumgauge/quorumgauge/analysis.LawS0446BExactSmall", spec := "lawS0446BExactSmall", apart := false }
def LawS0446BExactSmallSaid : Prop := lawS0446BExactSmallRow.holds Yba.pinned (OpenSpec.ofChange lawS0446BExactSmallSpec)

/-- ITS FALSE NEIGHBOUR: 'it returns false'. Refute it at one input. -/
def lawS0446BExactSmallWrong : ChangeSpec := { name := "lawS0446BExactSmall", fn := fun _ => fun
  | [d1, d2] => { results := [.lit (.bool false)], args := [d1, d2] }
  | _ => none }
def LawS0446BExactSmallWrongFalsely : Prop := lawS0446BExactSmallRow.holds Yba.pinned (OpenSpec.ofChange lawS0446BExactSmallWrong)

/-- 'analysis.LawS0446BNonPositive': WHATEVER THE INPUT: true; the input reads as it did. -/
def lawS0446BNonPositiveSpec : ChangeSpec := { name := "lawS0446BNonPositive", fn := fun _ => fun
  | [d1, d2] => { results := [.lit (.bool true)], args := [d1, d2] }
  | _ => none }
def lawS0446BNonPositiveRow : OpenClaim := { program := "ybulkife", sum := "31c35f3b09805505a6acb6ed7a2d2d455b2d12f2878c6a4b0f1a874eb23ab6ae", func := "example.com/quorumgauge/quorumgauge/analysis.LawS0446BNonPositive", spec := "lawS0446BNonPositive", apart := false }
def LawS0446BNonPositiveSaid : Prop := lawS0446BNonPositiveRow.holds Yba.pinned (OpenSpec.ofChange lawS0446BNonPositiveSpec)

/-- ITS FALSE NEIGHBOUR: 'it returns false'. Refute it at one input. -/
def lawS0446BNonPositiveWrong : ChangeSpec := { name := "lawS0446BNonPositive", fn := fun _ => fun
  | [d1, d2] => { results := [.lit (.bool false)], args := [d1, d2] }
  | _ => none }
def LawS0446BNonPositiveWrongFalsely : Prop := lawS0446BNonPositiveRow.holds Yba.pinned (OpenSpec.ofChange lawS0446BNonPositiveWrong)

/-- 'analysis.LawS0446BLowPowers': WHATEVER THE INPUT: true; the input reads as it did. -/
def lawS0446BLowPowersSpec : ChangeSpec := { name := "lawS0446BLowPowers", fn := fun _ => fun
  | [d] => { results := [.lit (.bool true)], args := [d] }
  | _ => none }
def lawS0446BLowPowersRow : OpenClaim := { program := "ybulkife", sum := "31c35f3b09805505a6acb6ed7a2d2d455b2d12f2878c6a4b0f1a874eb23ab6ae", func := "example.com/quorumgauge/quorumgauge/analysis.LawS0446BLowPowers", spec := "lawS0446BLowPowers", apart := false }
def LawS0446BLowPowersSaid : Prop := lawS0446BLowPowersRow.holds Yba.pinned (OpenSpec.ofChange lawS0446BLowPowersSpec)

/-- ITS FALSE NEIGHBOUR: 'it returns false'. Refute it at one input. -/
def lawS0446BLowPowersWrong : ChangeSpec := { name := "lawS0446BLowPowers", fn := fun _ => fun
  | [d] => { results := [.lit (.bool false)], args := [d] }
  | _ => none }
def LawS0446BLowPowersWrongFalsely : Prop := lawS0446BLowPowersRow.holds Yba.pinned (OpenSpec.ofChange lawS0446BLowPowersWrong)

/-- 'analysis.LawS0446CSmallInts': WHATEVER THE INPUT: true; the input reads as it did. -/
def lawS0446CSmallIntsSpec : ChangeSpec := { name := "lawS0446CSmallInts", fn := fun _ => fun
  | [d1, d2] => { results := [.lit (.bool true)], args := [d1, d2] }
  | _ => none }
def lawS0446CSmallIntsRow : OpenClaim := { program := "ybulkife", sum := "31c35f3b09805505a6acb6ed7a2d2d455b2d12f2878c6a4b0f1a874eb23ab6ae", func := "example.com/quorumgauge/quorumgauge/analysis.LawS0446CSmallInts", spec := "lawS0446CSmallInts", inPlace := ["math.Float64bits", "math.Float64frombits", "math.FMA"], apart := false }
def LawS0446CSmallIntsSaid : Prop := lawS0446CSmallIntsRow.holds Yba.pinned (OpenSpec.ofChange lawS0446CSmallIntsSpec)

/-- ITS FALSE NEIGHBOUR: 'it returns false'. Refute it at one input. -/
def lawS0446CSmallIntsWrong : ChangeSpec := { name := "lawS0446CSmallInts", fn := fun _ => fun
  | [d1, d2] => { results := [.lit (.bool false)], args := [d1, d2] }
  | _ => none }
def LawS0446CSmallIntsWrongFalsely : Prop := lawS0446CSmallIntsRow.holds Yba.pinned (OpenSpec.ofChange lawS0446CSmallIntsWrong)

/-- 'analysis.LawS0446CPowTwo': WHATEVER THE INPUT: true; the input reads as it did. -/
def lawS0446CPowTwoSpec : ChangeSpec := { name := "lawS0446CPowTwo", fn := fun _ => fun
  | [d1, d2] => { results := [.lit (.bool true)], args := [d1, d2] }
  | _ => none }
def lawS0446CPowTwoRow : OpenClaim := { program := "ybulkife", sum := "31c35f3b09805505a6acb6ed7a2d2d455b2d12f2878c6a4b0f1a874eb23ab6ae", func := "example.com/quorumgauge/quorumgauge/analysis.LawS0446CPowTwo", spec := "lawS0446CPowTwo", inPlace := ["math.Float64bits", "math.Float64frombits", "math.FMA"], apart := false }
def LawS0446CPowTwoSaid : Prop := lawS0446CPowTwoRow.holds Yba.pinned (OpenSpec.ofChange lawS0446CPowTwoSpec)

/-- ITS FALSE NEIGHBOUR: 'it returns false'. Refute it at one input. -/
def lawS0446CPowTwoWrong : ChangeSpec := { name := "lawS0446CPowTwo", fn := fun _ => fun
  | [d1, d2] => { results := [.lit (.bool false)], args := [d1, d2] }
  | _ => none }
def LawS0446CPowTwoWrongFalsely : Prop := lawS0446CPowTwoRow.holds Yba.pinned (OpenSpec.ofChange lawS0446CPowTwoWrong)

end Rows
end Go.Proofs.Ybulkife
