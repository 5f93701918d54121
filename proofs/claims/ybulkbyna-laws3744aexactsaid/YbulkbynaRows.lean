/-
  No cell of these rows narrows 'for every input' (looked for: loops, veiled, ifaces, maps, wideKeys, modest, calm, conditions, laid).
  DERIVED. THE GIVEN ROWS OF THIS SEAT. 3 by the template 'for every input the law returns true; each argument reads behind the call as it read before'; 0 by the template 'total and deterministic' (their statements: YbulkbynaTotals.lean).
  GIVEN WITH THE SEED: the statements are not yours to turn. If you find one false, say at which input.
  Laid BY PROGRAM, IN A SANDBOX (cutbox-rows.mjs): the forced cells as the released guide's own fill.sh prints them over the translation a29055a6f9bb9636… (all of the seat's roots in one cut). By AI agents, Wed Nov 11 2026. No macro, syntax, notation, axiom, sorry.
-/
import Derived.Test.YbulkbynaChecked
import GoSem.Claim
import GoSem.ClaimJoined
import GoSem.ClaimMapViews
import Derived.JoinedTies
import Derived.KernelRfl
namespace Go.Proofs.Ybulkbyna
/- THE CELL 'sum', in the pinned program and in every row, IS THE sha256 OF THE DUMP (.gsa) THAT YbulkbynaProg.lean LOADS. Nothing in Lean hashes anything: it is a label: what it is worth is what the hold of that sum in a sandbox is worth. -/
noncomputable def Yba.pinned : Pinned := { name := "ybulkbyna", sum := "a29055a6f9bb9636bd9846a0ec78742f968dd198ab7652f0019841b3861874c1", checked := Yba.checked }
namespace Rows
def none {H : Type} : Left H := { results := [], args := [] }

/-- 'propfair.LawS3744AExact': WHATEVER THE INPUT: true; the input reads as it did. -/
def lawS3744AExactSpec : ChangeSpec := { name := "lawS3744AExact", fn := fun _ => fun
  | [d1, d2, d3] => { results := [.lit (.bool true)], args := [d1, d2, d3] }
  | _ => none }
def lawS3744AExactRow : OpenClaim := { program := "ybulkbyna", sum := "a29055a6f9bb9636bd9846a0ec78742f968dd198ab7652f0019841b3861874c1", func := "example.com/isonomy/isonomy/internal/propfair.LawS3744AExact", spec := "lawS3744AExact", inPlace := ["math.Float64frombits", "math.Float64bits"], apart := false }
def LawS3744AExactSaid : Prop := lawS3744AExactRow.holds Yba.pinned (OpenSpec.ofChange lawS3744AExactSpec)

/-- ITS FALSE NEIGHBOUR: 'it returns false'. Refute it at one input. -/
def lawS3744AExactWrong : ChangeSpec := { name := "lawS3744AExact", fn := fun _ => fun
  | [d1, d2, d3] => { results := [.lit (.bool false)], args := [d1, d2, d3] }
  | _ => none }
def LawS3744AExactWrongFalsely : Prop := lawS3744AExactRow.holds Yba.pinned (OpenSpec.ofChange lawS3744AExactWrong)

/-- 'isonomy.LawS3744BExact': WHATEVER THE INPUT: true; the input reads as it did. -/
def lawS3744BExactSpec : ChangeSpec := { name := "lawS3744BExact", fn := fun _ => fun
  | [d1, d2, d3, d4, d5, d6, d7] => { results := [.lit (.bool true)], args := [d1, d2, d3, d4, d5, d6, d7] }
  | _ => none }
def lawS3744BExactRow : OpenClaim := { program := "ybulkbyna", sum := "a29055a6f9bb9636bd9846a0ec78742f968dd198ab7652f0019841b3861874c1", func := "example.com/isonomy/isonomy.LawS3744BExact", spec := "lawS3744BExact", inPlace := ["math.Float64bits"], apart := false }
def LawS3744BExactSaid : Prop := lawS3744BExactRow.holds Yba.pinned (OpenSpec.ofChange lawS3744BExactSpec)

/-- ITS FALSE NEIGHBOUR: 'it returns false'. Refute it at one input. -/
def lawS3744BExactWrong : ChangeSpec := { name := "lawS3744BExact", fn := fun _ => fun
  | [d1, d2, d3, d4, d5, d6, d7] => { results := [.lit (.bool false)], args := [d1, d2, d3, d4, d5, d6, d7] }
  | _ => none }
def LawS3744BExactWrongFalsely : Prop := lawS3744BExactRow.holds Yba.pinned (OpenSpec.ofChange lawS3744BExactWrong)

/-- 'isonomy.LawS3744BLocal': WHATEVER THE INPUT: true; the input reads as it did. -/
def lawS3744BLocalSpec : ChangeSpec := { name := "lawS3744BLocal", fn := fun _ => fun
  | [d1, d2, d3, d4, d5, d6, d7] => { results := [.lit (.bool true)], args := [d1, d2, d3, d4, d5, d6, d7] }
  | _ => none }
def lawS3744BLocalRow : OpenClaim := { program := "ybulkbyna", sum := "a29055a6f9bb9636bd9846a0ec78742f968dd198ab7652f0019841b3861874c1", func := "example.com/isonomy/isonomy.LawS3744BLocal", spec := "lawS3744BLocal", inPlace := ["math.Float64bits"], apart := false }
def LawS3744BLocalSaid : Prop := lawS3744BLocalRow.holds Yba.pinned (OpenSpec.ofChange lawS3744BLocalSpec)

/-- ITS FALSE NEIGHBOUR: 'it returns false'. Refute it at one input. -/
def lawS3744BLocalWrong : ChangeSpec := { name := "lawS3744BLocal", fn := fun _ => fun
  | [d1, d2, d3, d4, d5, d6, d7] => { results := [.lit (.bool false)], args := [d1, d2, d3, d4, d5, d6, d7] }
  | _ => none }
def LawS3744BLocalWrongFalsely : Prop := lawS3744BLocalRow.holds Yba.pinned (OpenSpec.ofChange lawS3744BLocalWrong)

end Rows
end Go.Proofs.Ybulkbyna
