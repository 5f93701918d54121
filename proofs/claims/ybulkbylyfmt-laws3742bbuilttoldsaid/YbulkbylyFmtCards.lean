/-
  DERIVED. GIVEN WITH THE SEED: THE CARDS: each row of YbulkbylyFmtRows.lean that lists a variable, with what it lists TIED to the program's text (the seventh form; the later family's looks); each row that meets fmt, with fmt's text TOLD by the authors' own Lean function (tested against real Go, not proved from fmt's source: count such statements apart). THE CARD IS WHAT COUNTS. Prove the row's statement (the work); the ties are given (YbulkbylyFmtTie.lean); close each card by the builder's one call (the guide's Derived/Test/ToyasCard.lean, 'card_holds'). Laid BY PROGRAM, IN A SANDBOX (cutbox-door.mjs). By AI agents, Wed Nov 11 2026. No macro, syntax, notation, axiom, sorry.
-/
import Derived.Test.YbulkbylyFmtRows
import GoSem.ClaimSeven
namespace Go.Proofs.YbulkbylyFmt
namespace Rows

/-- THE TOLD CARD OF 'interpose.LawS3742BModel'. -/
def lawS3742BModelCard : Claim7 := { stood := { row := lawS3742BModelRow, standIns := [], harness := (true, "72dc32b53e8bf5cd75489df4156d09b4a202775ab027b58e2d858289a4f50e22"), looks := false }, told := true, goes := false }
def LawS3742BModelToldSaid : Prop := Claim7.holds Ybaf.pinned (.plain (OpenSpec.ofChange lawS3742BModelSpec)) lawS3742BModelCard
/-- ITS FALSE NEIGHBOUR. Refute it at one input. -/
def LawS3742BModelToldWrongFalsely : Prop := Claim7.holds Ybaf.pinned (.plain (OpenSpec.ofChange lawS3742BModelWrong)) lawS3742BModelCard

/-- THE TOLD CARD OF 'interpose.LawS3742BBuilt'. -/
def lawS3742BBuiltCard : Claim7 := { stood := { row := lawS3742BBuiltRow, standIns := [], harness := (true, "72dc32b53e8bf5cd75489df4156d09b4a202775ab027b58e2d858289a4f50e22"), looks := false }, told := true, goes := false }
def LawS3742BBuiltToldSaid : Prop := Claim7.holds Ybaf.pinned (.plain (OpenSpec.ofChange lawS3742BBuiltSpec)) lawS3742BBuiltCard
/-- ITS FALSE NEIGHBOUR. Refute it at one input. -/
def LawS3742BBuiltToldWrongFalsely : Prop := Claim7.holds Ybaf.pinned (.plain (OpenSpec.ofChange lawS3742BBuiltWrong)) lawS3742BBuiltCard
end Rows
end Go.Proofs.YbulkbylyFmt
