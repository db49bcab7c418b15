/-
  NARROWER THAN 'FOR EVERY INPUT', by the rows' own cells (each row's printed sentence says how): LawS0445CBuilt: ifaces.
  DERIVED. THE GIVEN ROWS OF THIS SEAT. 3 by the template 'for every input the law returns true; each argument reads behind the call as it read before'; 0 by the template 'total and deterministic' (their statements: YbulkieqFmtTotals.lean).
  GIVEN WITH THE SEED: the statements are not yours to turn. If you find one false, say at which input.
  Laid BY PROGRAM, IN A SANDBOX (cutbox-rows.mjs): the forced cells as the released guide's own fill.sh prints them over the translation c4be55726250b716… (all of the seat's roots in one cut). By AI agents, Wed Nov 11 2026. No macro, syntax, notation, axiom, sorry.
-/
import Derived.Test.YbulkieqFmtChecked
import GoSem.Claim
import GoSem.ClaimJoined
import GoSem.ClaimMapViews
import Derived.JoinedTies
import Derived.KernelRfl
namespace Go.Proofs.YbulkieqFmt
/- THE CELL 'sum', in the pinned program and in every row, IS THE sha256 OF THE DUMP (.gsa) THAT YbulkieqFmtProg.lean LOADS. Nothing in Lean hashes anything: it is a label: what it is worth is what the hold of that sum in a sandbox is worth. -/
noncomputable def Ybaf.pinned : Pinned := { name := "ybulkieqfmt", sum := "c4be55726250b7167de9f4e9e1147fbd4384af05fabac8834838e6ef89da7e2d", checked := Ybaf.checked }
namespace Rows
def none {H : Type} : Left H := { results := [], args := [] }

/-- 'blobwright.LawS0445BIndex': WHATEVER THE INPUT: true; the input reads as it did. -/
def lawS0445BIndexSpec : ChangeSpec := { name := "lawS0445BIndex", fn := fun _ => fun
  | [d1, d2, d3] => { results := [.lit (.bool true)], args := [d1, d2, d3] }
  | _ => none }
def lawS0445BIndexRow : OpenClaim := { program := "ybulkieqfmt", sum := "c4be55726250b7167de9f4e9e1147fbd4384af05fabac8834838e6ef89da7e2d", func := "example.com/blobwright/blobwright.LawS0445BIndex", spec := "lawS0445BIndex", stops := ["fmt.Sprintf", "fmt.errorf, its operands' methods called"], inPlace := ["fmt.Sprintf"], apart := false }
/-- NO THEOREM (fmt's text is open here; it may be false): for the released tool's asking of the row's closed facts alone. THE STATEMENT IS 'LawS0445BIndexToldSaid' (YbulkieqFmtCards.lean). -/
def LawS0445BIndexFormAsk : Prop := lawS0445BIndexRow.holds Ybaf.pinned (OpenSpec.ofChange lawS0445BIndexSpec)

/-- ITS FALSE NEIGHBOUR: 'it returns false'. Refute it at one input. -/
def lawS0445BIndexWrong : ChangeSpec := { name := "lawS0445BIndex", fn := fun _ => fun
  | [d1, d2, d3] => { results := [.lit (.bool false)], args := [d1, d2, d3] }
  | _ => none }
def LawS0445BIndexWrongFormAsk : Prop := lawS0445BIndexRow.holds Ybaf.pinned (OpenSpec.ofChange lawS0445BIndexWrong)

/-- 'blobwright.LawS0445BFirstLast': WHATEVER THE INPUT: true; the input reads as it did. -/
def lawS0445BFirstLastSpec : ChangeSpec := { name := "lawS0445BFirstLast", fn := fun _ => fun
  | [d1, d2] => { results := [.lit (.bool true)], args := [d1, d2] }
  | _ => none }
def lawS0445BFirstLastRow : OpenClaim := { program := "ybulkieqfmt", sum := "c4be55726250b7167de9f4e9e1147fbd4384af05fabac8834838e6ef89da7e2d", func := "example.com/blobwright/blobwright.LawS0445BFirstLast", spec := "lawS0445BFirstLast", stops := ["fmt.Sprintf", "fmt.errorf, its operands' methods called"], inPlace := ["fmt.Sprintf"], apart := false }
/-- NO THEOREM (fmt's text is open here; it may be false): for the released tool's asking of the row's closed facts alone. THE STATEMENT IS 'LawS0445BFirstLastToldSaid' (YbulkieqFmtCards.lean). -/
def LawS0445BFirstLastFormAsk : Prop := lawS0445BFirstLastRow.holds Ybaf.pinned (OpenSpec.ofChange lawS0445BFirstLastSpec)

/-- ITS FALSE NEIGHBOUR: 'it returns false'. Refute it at one input. -/
def lawS0445BFirstLastWrong : ChangeSpec := { name := "lawS0445BFirstLast", fn := fun _ => fun
  | [d1, d2] => { results := [.lit (.bool false)], args := [d1, d2] }
  | _ => none }
def LawS0445BFirstLastWrongFormAsk : Prop := lawS0445BFirstLastRow.holds Ybaf.pinned (OpenSpec.ofChange lawS0445BFirstLastWrong)

/-- 'blobwright.LawS0445CBuilt': WHATEVER THE INPUT: true; the input reads as it did. -/
def lawS0445CBuiltSpec : ChangeSpec := { name := "lawS0445CBuilt", vars := ["example.com/blobwright/blobwright.ErrMalformed"], fn := fun _ => fun
  | [d1, d2, d3, d4, g1] => { results := [.lit (.bool true)], args := [d1, d2, d3, d4], vars := [g1] }
  | _ => none }
def lawS0445CBuiltRow : OpenClaim := { program := "ybulkieqfmt", sum := "c4be55726250b7167de9f4e9e1147fbd4384af05fabac8834838e6ef89da7e2d", func := "example.com/blobwright/blobwright.LawS0445CBuilt", spec := "lawS0445CBuilt", stops := ["fmt.Sprintf", "fmt.errorf, its operands' methods called"], inPlace := ["fmt.errorf"], unfollowed := true, recurses := true, named := ["example.com/blobwright/blobwright.ErrMalformed", "encoding/binary.LittleEndian"], ifaces := true, apart := false }
/-- NO THEOREM (fmt's text is open here; it may be false): for the released tool's asking of the row's closed facts alone. THE STATEMENT IS 'LawS0445CBuiltToldSaid' (YbulkieqFmtCards.lean). -/
def LawS0445CBuiltFormAsk : Prop := lawS0445CBuiltRow.holds Ybaf.pinned (OpenSpec.ofChange lawS0445CBuiltSpec)

/-- ITS FALSE NEIGHBOUR: 'it returns false'. Refute it at one input. -/
def lawS0445CBuiltWrong : ChangeSpec := { name := "lawS0445CBuilt", vars := ["example.com/blobwright/blobwright.ErrMalformed"], fn := fun _ => fun
  | [d1, d2, d3, d4, g1] => { results := [.lit (.bool false)], args := [d1, d2, d3, d4], vars := [g1] }
  | _ => none }
def LawS0445CBuiltWrongFormAsk : Prop := lawS0445CBuiltRow.holds Ybaf.pinned (OpenSpec.ofChange lawS0445CBuiltWrong)

end Rows
end Go.Proofs.YbulkieqFmt
