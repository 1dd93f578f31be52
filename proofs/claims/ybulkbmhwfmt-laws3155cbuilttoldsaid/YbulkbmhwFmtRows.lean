/-
  No cell of these rows narrows 'for every input' (looked for: loops, veiled, ifaces, maps, wideKeys, modest, calm, conditions, laid).
  DERIVED. THE GIVEN ROWS OF THIS SEAT. 2 by the template 'for every input the law returns true; each argument reads behind the call as it read before'; 0 by the template 'total and deterministic' (their statements: YbulkbmhwFmtTotals.lean).
  GIVEN WITH THE SEED: the statements are not yours to turn. If you find one false, say at which input.
  Laid BY PROGRAM, IN A SANDBOX (cutbox-rows.mjs): the forced cells as the released guide's own fill.sh prints them over the translation 8343e6035a1c7401… (all of the seat's roots in one cut). By AI agents, Wed Nov 11 2026. No macro, syntax, notation, axiom, sorry.
-/
import Derived.Test.YbulkbmhwFmtChecked
import GoSem.Claim
import GoSem.ClaimJoined
import GoSem.ClaimMapViews
import Derived.JoinedTies
import Derived.KernelRfl
namespace Go.Proofs.YbulkbmhwFmt
/- THE CELL 'sum', in the pinned program and in every row, IS THE sha256 OF THE DUMP (.gsa) THAT YbulkbmhwFmtProg.lean LOADS. Nothing in Lean hashes anything: it is a label: what it is worth is what the hold of that sum in a sandbox is worth. -/
noncomputable def Ybaf.pinned : Pinned := { name := "ybulkbmhwfmt", sum := "8343e6035a1c7401f66554912f13c6d21667f8a9c8e29bedff788f9156cecf8d", checked := Ybaf.checked }
namespace Rows
def none {H : Type} : Left H := { results := [], args := [] }

/-- 'clearhouse.LawS3155CExact': WHATEVER THE INPUT: true; the input reads as it did. -/
def lawS3155CExactSpec : ChangeSpec := { name := "lawS3155CExact", fn := fun _ => fun
  | [d1, d2] => { results := [.lit (.bool true)], args := [d1, d2] }
  | _ => none }
def lawS3155CExactRow : OpenClaim := { program := "ybulkbmhwfmt", sum := "8343e6035a1c7401f66554912f13c6d21667f8a9c8e29bedff788f9156cecf8d", func := "example.com/clearhouse/clearhouse.LawS3155CExact", spec := "lawS3155CExact", stops := ["fmt.errorf"], inPlace := ["fmt.errorf"], apart := false }
/-- NO THEOREM (fmt's text is open here; it may be false): for the released tool's asking of the row's closed facts alone. THE STATEMENT IS 'LawS3155CExactToldSaid' (YbulkbmhwFmtCards.lean). -/
def LawS3155CExactFormAsk : Prop := lawS3155CExactRow.holds Ybaf.pinned (OpenSpec.ofChange lawS3155CExactSpec)

/-- ITS FALSE NEIGHBOUR: 'it returns false'. Refute it at one input. -/
def lawS3155CExactWrong : ChangeSpec := { name := "lawS3155CExact", fn := fun _ => fun
  | [d1, d2] => { results := [.lit (.bool false)], args := [d1, d2] }
  | _ => none }
def LawS3155CExactWrongFormAsk : Prop := lawS3155CExactRow.holds Ybaf.pinned (OpenSpec.ofChange lawS3155CExactWrong)

/-- 'clearhouse.LawS3155CBuilt': WHATEVER THE INPUT: true; the input reads as it did. -/
def lawS3155CBuiltSpec : ChangeSpec := { name := "lawS3155CBuilt", fn := fun _ => fun
  | [d1, d2] => { results := [.lit (.bool true)], args := [d1, d2] }
  | _ => none }
def lawS3155CBuiltRow : OpenClaim := { program := "ybulkbmhwfmt", sum := "8343e6035a1c7401f66554912f13c6d21667f8a9c8e29bedff788f9156cecf8d", func := "example.com/clearhouse/clearhouse.LawS3155CBuilt", spec := "lawS3155CBuilt", stops := ["fmt.errorf"], inPlace := ["fmt.errorf"], apart := false }
/-- NO THEOREM (fmt's text is open here; it may be false): for the released tool's asking of the row's closed facts alone. THE STATEMENT IS 'LawS3155CBuiltToldSaid' (YbulkbmhwFmtCards.lean). -/
def LawS3155CBuiltFormAsk : Prop := lawS3155CBuiltRow.holds Ybaf.pinned (OpenSpec.ofChange lawS3155CBuiltSpec)

/-- ITS FALSE NEIGHBOUR: 'it returns false'. Refute it at one input. -/
def lawS3155CBuiltWrong : ChangeSpec := { name := "lawS3155CBuilt", fn := fun _ => fun
  | [d1, d2] => { results := [.lit (.bool false)], args := [d1, d2] }
  | _ => none }
def LawS3155CBuiltWrongFormAsk : Prop := lawS3155CBuiltRow.holds Ybaf.pinned (OpenSpec.ofChange lawS3155CBuiltWrong)

end Rows
end Go.Proofs.YbulkbmhwFmt
