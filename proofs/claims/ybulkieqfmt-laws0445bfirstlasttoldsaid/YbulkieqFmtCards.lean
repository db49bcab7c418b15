/-
  DERIVED. GIVEN WITH THE SEED: THE CARDS: each row of YbulkieqFmtRows.lean that lists a variable, with what it lists TIED to the program's text (the seventh form; the later family's looks); each row that meets fmt, with fmt's text TOLD by the authors' own Lean function (tested against real Go, not proved from fmt's source: count such statements apart). THE CARD IS WHAT COUNTS. Prove the row's statement (the work); the ties are given (YbulkieqFmtTie.lean); close each card by the builder's one call (the guide's Derived/Test/ToyasCard.lean, 'card_holds'). Laid BY PROGRAM, IN A SANDBOX (cutbox-door.mjs). By AI agents, Wed Nov 11 2026. No macro, syntax, notation, axiom, sorry.
-/
import Derived.Test.YbulkieqFmtRows
import GoSem.ClaimSeven
namespace Go.Proofs.YbulkieqFmt
namespace Rows

/-- THE TOLD CARD OF 'blobwright.LawS0445BIndex'. -/
def lawS0445BIndexCard : Claim7 := { stood := { row := lawS0445BIndexRow, standIns := [], harness := (true, "ecb80442ab73a0cf33d3b929638bde206dce1c5817ab59961a2ad886bbb4ad76"), looks := false }, told := true, goes := false }
def LawS0445BIndexToldSaid : Prop := Claim7.holds Ybaf.pinned (.plain (OpenSpec.ofChange lawS0445BIndexSpec)) lawS0445BIndexCard
/-- ITS FALSE NEIGHBOUR. Refute it at one input. -/
def LawS0445BIndexToldWrongFalsely : Prop := Claim7.holds Ybaf.pinned (.plain (OpenSpec.ofChange lawS0445BIndexWrong)) lawS0445BIndexCard

/-- THE TOLD CARD OF 'blobwright.LawS0445BFirstLast'. -/
def lawS0445BFirstLastCard : Claim7 := { stood := { row := lawS0445BFirstLastRow, standIns := [], harness := (true, "ecb80442ab73a0cf33d3b929638bde206dce1c5817ab59961a2ad886bbb4ad76"), looks := false }, told := true, goes := false }
def LawS0445BFirstLastToldSaid : Prop := Claim7.holds Ybaf.pinned (.plain (OpenSpec.ofChange lawS0445BFirstLastSpec)) lawS0445BFirstLastCard
/-- ITS FALSE NEIGHBOUR. Refute it at one input. -/
def LawS0445BFirstLastToldWrongFalsely : Prop := Claim7.holds Ybaf.pinned (.plain (OpenSpec.ofChange lawS0445BFirstLastWrong)) lawS0445BFirstLastCard

/-- THE TOLD CARD OF 'blobwright.LawS0445CBuilt'. -/
def lawS0445CBuiltCard : Claim7 := { stood := { row := lawS0445CBuiltRow, standIns := [], harness := (true, "ecb80442ab73a0cf33d3b929638bde206dce1c5817ab59961a2ad886bbb4ad76"), looks := false }, told := true, goes := false }
def LawS0445CBuiltToldSaid : Prop := Claim7.holds Ybaf.pinned (.plain (OpenSpec.ofChange lawS0445CBuiltSpec)) lawS0445CBuiltCard
/-- ITS FALSE NEIGHBOUR. Refute it at one input. -/
def LawS0445CBuiltToldWrongFalsely : Prop := Claim7.holds Ybaf.pinned (.plain (OpenSpec.ofChange lawS0445CBuiltWrong)) lawS0445CBuiltCard
end Rows
end Go.Proofs.YbulkieqFmt
