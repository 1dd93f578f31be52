/-
  DERIVED. GIVEN WITH THE SEED: THE CARDS: each row of YbulkbmhwFmtRows.lean that lists a variable, with what it lists TIED to the program's text (the seventh form; the later family's looks); each row that meets fmt, with fmt's text TOLD by the authors' own Lean function (tested against real Go, not proved from fmt's source: count such statements apart). THE CARD IS WHAT COUNTS. Prove the row's statement (the work); the ties are given (YbulkbmhwFmtTie.lean); close each card by the builder's one call (the guide's Derived/Test/ToyasCard.lean, 'card_holds'). Laid BY PROGRAM, IN A SANDBOX (cutbox-door.mjs). By AI agents, Wed Nov 11 2026. No macro, syntax, notation, axiom, sorry.
-/
import Derived.Test.YbulkbmhwFmtRows
import GoSem.ClaimSeven
namespace Go.Proofs.YbulkbmhwFmt
namespace Rows

/-- THE TOLD CARD OF 'clearhouse.LawS3155CExact'. -/
def lawS3155CExactCard : Claim7 := { stood := { row := lawS3155CExactRow, standIns := [], harness := (true, "555e90bec0809b64d3ea0758e6d5955f33d91ed9118788971251119cf3b85e9d"), looks := false }, told := true, goes := false }
def LawS3155CExactToldSaid : Prop := Claim7.holds Ybaf.pinned (.plain (OpenSpec.ofChange lawS3155CExactSpec)) lawS3155CExactCard
/-- ITS FALSE NEIGHBOUR. Refute it at one input. -/
def LawS3155CExactToldWrongFalsely : Prop := Claim7.holds Ybaf.pinned (.plain (OpenSpec.ofChange lawS3155CExactWrong)) lawS3155CExactCard

/-- THE TOLD CARD OF 'clearhouse.LawS3155CBuilt'. -/
def lawS3155CBuiltCard : Claim7 := { stood := { row := lawS3155CBuiltRow, standIns := [], harness := (true, "555e90bec0809b64d3ea0758e6d5955f33d91ed9118788971251119cf3b85e9d"), looks := false }, told := true, goes := false }
def LawS3155CBuiltToldSaid : Prop := Claim7.holds Ybaf.pinned (.plain (OpenSpec.ofChange lawS3155CBuiltSpec)) lawS3155CBuiltCard
/-- ITS FALSE NEIGHBOUR. Refute it at one input. -/
def LawS3155CBuiltToldWrongFalsely : Prop := Claim7.holds Ybaf.pinned (.plain (OpenSpec.ofChange lawS3155CBuiltWrong)) lawS3155CBuiltCard
end Rows
end Go.Proofs.YbulkbmhwFmt
