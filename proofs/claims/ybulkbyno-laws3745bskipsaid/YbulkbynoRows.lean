/-
  No cell of these rows narrows 'for every input' (looked for: loops, veiled, ifaces, maps, wideKeys, modest, calm, conditions, laid).
  DERIVED. THE GIVEN ROWS OF THIS SEAT. 1 by the template 'for every input the law returns true; each argument reads behind the call as it read before'; 0 by the template 'total and deterministic' (their statements: YbulkbynoTotals.lean).
  GIVEN WITH THE SEED: the statements are not yours to turn. If you find one false, say at which input.
  Laid BY PROGRAM, IN A SANDBOX (cutbox-rows.mjs): the forced cells as the released guide's own fill.sh prints them over the translation 80bf78340b4a2eee… (all of the seat's roots in one cut). By AI agents, Wed Nov 11 2026. No macro, syntax, notation, axiom, sorry.
-/
import Derived.Test.YbulkbynoChecked
import GoSem.Claim
import GoSem.ClaimJoined
import GoSem.ClaimMapViews
import Derived.JoinedTies
import Derived.KernelRfl
namespace Go.Proofs.Ybulkbyno
/- THE CELL 'sum', in the pinned program and in every row, IS THE sha256 OF THE DUMP (.gsa) THAT YbulkbynoProg.lean LOADS. Nothing in Lean hashes anything: it is a label: what it is worth is what the hold of that sum in a sandbox is worth. -/
noncomputable def Yba.pinned : Pinned := { name := "ybulkbyno", sum := "80bf78340b4a2eee6c6dccb96c0adef22df29fb4d0de08f6c2d4b7c5c6d91b89", checked := Yba.checked }
namespace Rows
def none {H : Type} : Left H := { results := [], args := [] }

/-- 'utnapishtim.LawS3745BSkip': WHATEVER THE INPUT: true; the input reads as it did. -/
def lawS3745BSkipSpec : ChangeSpec := { name := "lawS3745BSkip", fn := fun _ => fun
  | [d1, d2] => { results := [.lit (.bool true)], args := [d1, d2] }
  | _ => none }
def lawS3745BSkipRow : OpenClaim := { program := "ybulkbyno", sum := "80bf78340b4a2eee6c6dccb96c0adef22df29fb4d0de08f6c2d4b7c5c6d91b89", func := "example.com/utnapishtim/utnapishtim.LawS3745BSkip", spec := "lawS3745BSkip", apart := false }
def LawS3745BSkipSaid : Prop := lawS3745BSkipRow.holds Yba.pinned (OpenSpec.ofChange lawS3745BSkipSpec)

/-- ITS FALSE NEIGHBOUR: 'it returns false'. Refute it at one input. -/
def lawS3745BSkipWrong : ChangeSpec := { name := "lawS3745BSkip", fn := fun _ => fun
  | [d1, d2] => { results := [.lit (.bool false)], args := [d1, d2] }
  | _ => none }
def LawS3745BSkipWrongFalsely : Prop := lawS3745BSkipRow.holds Yba.pinned (OpenSpec.ofChange lawS3745BSkipWrong)

end Rows
end Go.Proofs.Ybulkbyno
