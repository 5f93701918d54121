/-
  No cell of these rows narrows 'for every input' (looked for: loops, veiled, ifaces, maps, wideKeys, modest, calm, conditions, laid).
  DERIVED. THE GIVEN ROWS OF THIS SEAT. 4 by the template 'for every input the law returns true; each argument reads behind the call as it read before'; 0 by the template 'total and deterministic' (their statements: YbulkbykwTotals.lean).
  GIVEN WITH THE SEED: the statements are not yours to turn. If you find one false, say at which input.
  Laid BY PROGRAM, IN A SANDBOX (cutbox-rows.mjs): the forced cells as the released guide's own fill.sh prints them over the translation 8bd208ee099a4475… (all of the seat's roots in one cut). By AI agents, Wed Nov 11 2026. No macro, syntax, notation, axiom, sorry.
-/
import Derived.Test.YbulkbykwChecked
import GoSem.Claim
import GoSem.ClaimJoined
import GoSem.ClaimMapViews
import Derived.JoinedTies
import Derived.KernelRfl
namespace Go.Proofs.Ybulkbykw
/- THE CELL 'sum', in the pinned program and in every row, IS THE sha256 OF THE DUMP (.gsa) THAT YbulkbykwProg.lean LOADS. Nothing in Lean hashes anything: it is a label: what it is worth is what the hold of that sum in a sandbox is worth. -/
noncomputable def Yba.pinned : Pinned := { name := "ybulkbykw", sum := "8bd208ee099a4475ca41602c02c6ca15e4cb244bdf3ac168fb83761ce3d37bb8", checked := Yba.checked }
namespace Rows
def none {H : Type} : Left H := { results := [], args := [] }

/-- 'nfa.LawS3740ATrack': WHATEVER THE INPUT: true; the input reads as it did. -/
def lawS3740ATrackSpec : ChangeSpec := { name := "lawS3740ATrack", fn := fun _ => fun
  | [d1, d2, d3, d4, d5] => { results := [.lit (.bool true)], args := [d1, d2, d3, d4, d5] }
  | _ => none }
def lawS3740ATrackRow : OpenClaim := { program := "ybulkbykw", sum := "8bd208ee099a4475ca41602c02c6ca15e4cb244bdf3ac168fb83761ce3d37bb8", func := "example.com/statewright/statewright/internal/nfa.LawS3740ATrack", spec := "lawS3740ATrack", apart := false }
def LawS3740ATrackSaid : Prop := lawS3740ATrackRow.holds Yba.pinned (OpenSpec.ofChange lawS3740ATrackSpec)

/-- ITS FALSE NEIGHBOUR: 'it returns false'. Refute it at one input. -/
def lawS3740ATrackWrong : ChangeSpec := { name := "lawS3740ATrack", fn := fun _ => fun
  | [d1, d2, d3, d4, d5] => { results := [.lit (.bool false)], args := [d1, d2, d3, d4, d5] }
  | _ => none }
def LawS3740ATrackWrongFalsely : Prop := lawS3740ATrackRow.holds Yba.pinned (OpenSpec.ofChange lawS3740ATrackWrong)

/-- 'nfa.LawS3740BFlat': WHATEVER THE INPUT: true; the input reads as it did. -/
def lawS3740BFlatSpec : ChangeSpec := { name := "lawS3740BFlat", fn := fun _ => fun
  | [d1, d2, d3] => { results := [.lit (.bool true)], args := [d1, d2, d3] }
  | _ => none }
def lawS3740BFlatRow : OpenClaim := { program := "ybulkbykw", sum := "8bd208ee099a4475ca41602c02c6ca15e4cb244bdf3ac168fb83761ce3d37bb8", func := "example.com/statewright/statewright/internal/nfa.LawS3740BFlat", spec := "lawS3740BFlat", apart := false }
def LawS3740BFlatSaid : Prop := lawS3740BFlatRow.holds Yba.pinned (OpenSpec.ofChange lawS3740BFlatSpec)

/-- ITS FALSE NEIGHBOUR: 'it returns false'. Refute it at one input. -/
def lawS3740BFlatWrong : ChangeSpec := { name := "lawS3740BFlat", fn := fun _ => fun
  | [d1, d2, d3] => { results := [.lit (.bool false)], args := [d1, d2, d3] }
  | _ => none }
def LawS3740BFlatWrongFalsely : Prop := lawS3740BFlatRow.holds Yba.pinned (OpenSpec.ofChange lawS3740BFlatWrong)

/-- 'nfa.LawS3740BShared': WHATEVER THE INPUT: true; the input reads as it did. -/
def lawS3740BSharedSpec : ChangeSpec := { name := "lawS3740BShared", fn := fun _ => fun
  | [d1, d2, d3, d4, d5] => { results := [.lit (.bool true)], args := [d1, d2, d3, d4, d5] }
  | _ => none }
def lawS3740BSharedRow : OpenClaim := { program := "ybulkbykw", sum := "8bd208ee099a4475ca41602c02c6ca15e4cb244bdf3ac168fb83761ce3d37bb8", func := "example.com/statewright/statewright/internal/nfa.LawS3740BShared", spec := "lawS3740BShared", apart := false }
def LawS3740BSharedSaid : Prop := lawS3740BSharedRow.holds Yba.pinned (OpenSpec.ofChange lawS3740BSharedSpec)

/-- ITS FALSE NEIGHBOUR: 'it returns false'. Refute it at one input. -/
def lawS3740BSharedWrong : ChangeSpec := { name := "lawS3740BShared", fn := fun _ => fun
  | [d1, d2, d3, d4, d5] => { results := [.lit (.bool false)], args := [d1, d2, d3, d4, d5] }
  | _ => none }
def LawS3740BSharedWrongFalsely : Prop := lawS3740BSharedRow.holds Yba.pinned (OpenSpec.ofChange lawS3740BSharedWrong)

/-- 'nfa.LawS3740BSetUndo': WHATEVER THE INPUT: true; the input reads as it did. -/
def lawS3740BSetUndoSpec : ChangeSpec := { name := "lawS3740BSetUndo", fn := fun _ => fun
  | [d1, d2, d3, d4] => { results := [.lit (.bool true)], args := [d1, d2, d3, d4] }
  | _ => none }
def lawS3740BSetUndoRow : OpenClaim := { program := "ybulkbykw", sum := "8bd208ee099a4475ca41602c02c6ca15e4cb244bdf3ac168fb83761ce3d37bb8", func := "example.com/statewright/statewright/internal/nfa.LawS3740BSetUndo", spec := "lawS3740BSetUndo", apart := false }
def LawS3740BSetUndoSaid : Prop := lawS3740BSetUndoRow.holds Yba.pinned (OpenSpec.ofChange lawS3740BSetUndoSpec)

/-- ITS FALSE NEIGHBOUR: 'it returns false'. Refute it at one input. -/
def lawS3740BSetUndoWrong : ChangeSpec := { name := "lawS3740BSetUndo", fn := fun _ => fun
  | [d1, d2, d3, d4] => { results := [.lit (.bool false)], args := [d1, d2, d3, d4] }
  | _ => none }
def LawS3740BSetUndoWrongFalsely : Prop := lawS3740BSetUndoRow.holds Yba.pinned (OpenSpec.ofChange lawS3740BSetUndoWrong)

end Rows
end Go.Proofs.Ybulkbykw
