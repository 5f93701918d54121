/-
  No cell of these rows narrows 'for every input' (looked for: loops, veiled, ifaces, maps, wideKeys, modest, calm, conditions, laid).
  DERIVED. THE GIVEN ROWS OF THIS SEAT. 2 by the template 'for every input the law returns true; each argument reads behind the call as it read before'; 0 by the template 'total and deterministic' (their statements: YbulkbylyFmtTotals.lean).
  GIVEN WITH THE SEED: the statements are not yours to turn. If you find one false, say at which input.
  Laid BY PROGRAM, IN A SANDBOX (cutbox-rows.mjs): the forced cells as the released guide's own fill.sh prints them over the translation a52a4e84b25770dd… (all of the seat's roots in one cut). By AI agents, Wed Nov 11 2026. No macro, syntax, notation, axiom, sorry.
-/
import Derived.Test.YbulkbylyFmtChecked
import GoSem.Claim
import GoSem.ClaimJoined
import GoSem.ClaimMapViews
import Derived.JoinedTies
import Derived.KernelRfl
namespace Go.Proofs.YbulkbylyFmt
/- THE CELL 'sum', in the pinned program and in every row, IS THE sha256 OF THE DUMP (.gsa) THAT YbulkbylyFmtProg.lean LOADS. Nothing in Lean hashes anything: it is a label: what it is worth is what the hold of that sum in a sandbox is worth. -/
noncomputable def Ybaf.pinned : Pinned := { name := "ybulkbylyfmt", sum := "a52a4e84b25770dd38a9a63a662f5aaf801912a6f11154dc99bc126460a28010", checked := Ybaf.checked }
namespace Rows
def none {H : Type} : Left H := { results := [], args := [] }

/-- 'interpose.LawS3742BModel': WHATEVER THE INPUT: true; the input reads as it did. -/
def lawS3742BModelSpec : ChangeSpec := { name := "lawS3742BModel", fn := fun _ => fun
  | [d1, d2, d3, d4] => { results := [.lit (.bool true)], args := [d1, d2, d3, d4] }
  | _ => none }
def lawS3742BModelRow : OpenClaim := { program := "ybulkbylyfmt", sum := "a52a4e84b25770dd38a9a63a662f5aaf801912a6f11154dc99bc126460a28010", func := "example.com/interpose/interpose/pkg/interpose.LawS3742BModel", spec := "lawS3742BModel", stops := ["fmt.errorf"], inPlace := ["fmt.errorf"], apart := false }
/-- NO THEOREM (fmt's text is open here; it may be false): for the released tool's asking of the row's closed facts alone. THE STATEMENT IS 'LawS3742BModelToldSaid' (YbulkbylyFmtCards.lean). -/
def LawS3742BModelFormAsk : Prop := lawS3742BModelRow.holds Ybaf.pinned (OpenSpec.ofChange lawS3742BModelSpec)

/-- ITS FALSE NEIGHBOUR: 'it returns false'. Refute it at one input. -/
def lawS3742BModelWrong : ChangeSpec := { name := "lawS3742BModel", fn := fun _ => fun
  | [d1, d2, d3, d4] => { results := [.lit (.bool false)], args := [d1, d2, d3, d4] }
  | _ => none }
def LawS3742BModelWrongFormAsk : Prop := lawS3742BModelRow.holds Ybaf.pinned (OpenSpec.ofChange lawS3742BModelWrong)

/-- 'interpose.LawS3742BBuilt': WHATEVER THE INPUT: true; the input reads as it did. -/
def lawS3742BBuiltSpec : ChangeSpec := { name := "lawS3742BBuilt", fn := fun _ => fun
  | [d1, d2, d3, d4] => { results := [.lit (.bool true)], args := [d1, d2, d3, d4] }
  | _ => none }
def lawS3742BBuiltRow : OpenClaim := { program := "ybulkbylyfmt", sum := "a52a4e84b25770dd38a9a63a662f5aaf801912a6f11154dc99bc126460a28010", func := "example.com/interpose/interpose/pkg/interpose.LawS3742BBuilt", spec := "lawS3742BBuilt", stops := ["fmt.errorf"], inPlace := ["fmt.errorf"], apart := false }
/-- NO THEOREM (fmt's text is open here; it may be false): for the released tool's asking of the row's closed facts alone. THE STATEMENT IS 'LawS3742BBuiltToldSaid' (YbulkbylyFmtCards.lean). -/
def LawS3742BBuiltFormAsk : Prop := lawS3742BBuiltRow.holds Ybaf.pinned (OpenSpec.ofChange lawS3742BBuiltSpec)

/-- ITS FALSE NEIGHBOUR: 'it returns false'. Refute it at one input. -/
def lawS3742BBuiltWrong : ChangeSpec := { name := "lawS3742BBuilt", fn := fun _ => fun
  | [d1, d2, d3, d4] => { results := [.lit (.bool false)], args := [d1, d2, d3, d4] }
  | _ => none }
def LawS3742BBuiltWrongFormAsk : Prop := lawS3742BBuiltRow.holds Ybaf.pinned (OpenSpec.ofChange lawS3742BBuiltWrong)

end Rows
end Go.Proofs.YbulkbylyFmt
