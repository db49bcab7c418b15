/-
  No cell of these rows narrows 'for every input' (looked for: loops, veiled, ifaces, maps, wideKeys, modest, calm, conditions, laid).
  DERIVED. THE GIVEN ROWS OF THIS SEAT. 2 by the template 'for every input the law returns true; each argument reads behind the call as it read before'; 0 by the template 'total and deterministic' (their statements: YbulkilqTotals.lean).
  GIVEN WITH THE SEED: the statements are not yours to turn. If you find one false, say at which input.
  Laid BY PROGRAM, IN A SANDBOX (cutbox-rows.mjs): the forced cells as the released guide's own fill.sh prints them over the translation 43318982f84518b5… (all of the seat's roots in one cut). By AI agents, Wed Nov 11 2026. No macro, syntax, notation, axiom, sorry.
-/
import Derived.Test.YbulkilqChecked
import GoSem.Claim
import GoSem.ClaimJoined
import GoSem.ClaimMapViews
import Derived.JoinedTies
import Derived.KernelRfl
namespace Go.Proofs.Ybulkilq
/- THE CELL 'sum', in the pinned program and in every row, IS THE sha256 OF THE DUMP (.gsa) THAT YbulkilqProg.lean LOADS. Nothing in Lean hashes anything: it is a label: what it is worth is what the hold of that sum in a sandbox is worth. -/
noncomputable def Yba.pinned : Pinned := { name := "ybulkilq", sum := "43318982f84518b5de6e194b312325970382bea0f5f07c7f63f8fd73252d4e9c", checked := Yba.checked }
namespace Rows
def none {H : Type} : Left H := { results := [], args := [] }

/-- 'stowage.LawS0458CMiddle': WHATEVER THE INPUT: true; the input reads as it did. -/
def lawS0458CMiddleSpec : ChangeSpec := { name := "lawS0458CMiddle", fn := fun _ => fun
  | [d] => { results := [.lit (.bool true)], args := [d] }
  | _ => none }
def lawS0458CMiddleRow : OpenClaim := { program := "ybulkilq", sum := "43318982f84518b5de6e194b312325970382bea0f5f07c7f63f8fd73252d4e9c", func := "example.com/stowage/stowage.LawS0458CMiddle", spec := "lawS0458CMiddle", recurses := true, apart := false }
def LawS0458CMiddleSaid : Prop := lawS0458CMiddleRow.holds Yba.pinned (OpenSpec.ofChange lawS0458CMiddleSpec)

/-- ITS FALSE NEIGHBOUR: 'it returns false'. Refute it at one input. -/
def lawS0458CMiddleWrong : ChangeSpec := { name := "lawS0458CMiddle", fn := fun _ => fun
  | [d] => { results := [.lit (.bool false)], args := [d] }
  | _ => none }
def LawS0458CMiddleWrongFalsely : Prop := lawS0458CMiddleRow.holds Yba.pinned (OpenSpec.ofChange lawS0458CMiddleWrong)

/-- 'stowage.LawS0458COrderFree': WHATEVER THE INPUT: true; the input reads as it did. -/
def lawS0458COrderFreeSpec : ChangeSpec := { name := "lawS0458COrderFree", fn := fun _ => fun
  | [d] => { results := [.lit (.bool true)], args := [d] }
  | _ => none }
def lawS0458COrderFreeRow : OpenClaim := { program := "ybulkilq", sum := "43318982f84518b5de6e194b312325970382bea0f5f07c7f63f8fd73252d4e9c", func := "example.com/stowage/stowage.LawS0458COrderFree", spec := "lawS0458COrderFree", recurses := true, apart := false }
def LawS0458COrderFreeSaid : Prop := lawS0458COrderFreeRow.holds Yba.pinned (OpenSpec.ofChange lawS0458COrderFreeSpec)

/-- ITS FALSE NEIGHBOUR: 'it returns false'. Refute it at one input. -/
def lawS0458COrderFreeWrong : ChangeSpec := { name := "lawS0458COrderFree", fn := fun _ => fun
  | [d] => { results := [.lit (.bool false)], args := [d] }
  | _ => none }
def LawS0458COrderFreeWrongFalsely : Prop := lawS0458COrderFreeRow.holds Yba.pinned (OpenSpec.ofChange lawS0458COrderFreeWrong)

end Rows
end Go.Proofs.Ybulkilq
