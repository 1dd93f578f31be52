/-
  No cell of these rows narrows 'for every input' (looked for: loops, veiled, ifaces, maps, wideKeys, modest, calm, conditions, laid).
  DERIVED. THE GIVEN ROWS OF THIS SEAT. 2 by the template 'for every input the law returns true; each argument reads behind the call as it read before'; 0 by the template 'total and deterministic' (their statements: YbulkbmkaTotals.lean).
  GIVEN WITH THE SEED: the statements are not yours to turn. If you find one false, say at which input.
  Laid BY PROGRAM, IN A SANDBOX (cutbox-rows.mjs): the forced cells as the released guide's own fill.sh prints them over the translation 95abe7503e2cf642… (all of the seat's roots in one cut). By AI agents, Wed Nov 11 2026. No macro, syntax, notation, axiom, sorry.
-/
import Derived.Test.YbulkbmkaChecked
import GoSem.Claim
import GoSem.ClaimJoined
import GoSem.ClaimMapViews
import Derived.JoinedTies
import Derived.KernelRfl
namespace Go.Proofs.Ybulkbmka
/- THE CELL 'sum', in the pinned program and in every row, IS THE sha256 OF THE DUMP (.gsa) THAT YbulkbmkaProg.lean LOADS. Nothing in Lean hashes anything: it is a label: what it is worth is what the hold of that sum in a sandbox is worth. -/
noncomputable def Yba.pinned : Pinned := { name := "ybulkbmka", sum := "95abe7503e2cf64200ede78f2e28394972c2f284bd2175160343e7f8f1cc9d4c", checked := Yba.checked }
namespace Rows
def none {H : Type} : Left H := { results := [], args := [] }

/-- 'castwright.LawS3159BModel': WHATEVER THE INPUT: true; the input reads as it did. -/
def lawS3159BModelSpec : ChangeSpec := { name := "lawS3159BModel", fn := fun _ => fun
  | [d] => { results := [.lit (.bool true)], args := [d] }
  | _ => none }
def lawS3159BModelRow : OpenClaim := { program := "ybulkbmka", sum := "95abe7503e2cf64200ede78f2e28394972c2f284bd2175160343e7f8f1cc9d4c", func := "example.com/castwright/castwright.LawS3159BModel", spec := "lawS3159BModel", apart := false }
def LawS3159BModelSaid : Prop := lawS3159BModelRow.holds Yba.pinned (OpenSpec.ofChange lawS3159BModelSpec)

/-- ITS FALSE NEIGHBOUR: 'it returns false'. Refute it at one input. -/
def lawS3159BModelWrong : ChangeSpec := { name := "lawS3159BModel", fn := fun _ => fun
  | [d] => { results := [.lit (.bool false)], args := [d] }
  | _ => none }
def LawS3159BModelWrongFalsely : Prop := lawS3159BModelRow.holds Yba.pinned (OpenSpec.ofChange lawS3159BModelWrong)

/-- 'castwright.LawS3159BRange': WHATEVER THE INPUT: true; the input reads as it did. -/
def lawS3159BRangeSpec : ChangeSpec := { name := "lawS3159BRange", fn := fun _ => fun
  | [d1, d2] => { results := [.lit (.bool true)], args := [d1, d2] }
  | _ => none }
def lawS3159BRangeRow : OpenClaim := { program := "ybulkbmka", sum := "95abe7503e2cf64200ede78f2e28394972c2f284bd2175160343e7f8f1cc9d4c", func := "example.com/castwright/castwright.LawS3159BRange", spec := "lawS3159BRange", apart := false }
def LawS3159BRangeSaid : Prop := lawS3159BRangeRow.holds Yba.pinned (OpenSpec.ofChange lawS3159BRangeSpec)

/-- ITS FALSE NEIGHBOUR: 'it returns false'. Refute it at one input. -/
def lawS3159BRangeWrong : ChangeSpec := { name := "lawS3159BRange", fn := fun _ => fun
  | [d1, d2] => { results := [.lit (.bool false)], args := [d1, d2] }
  | _ => none }
def LawS3159BRangeWrongFalsely : Prop := lawS3159BRangeRow.holds Yba.pinned (OpenSpec.ofChange lawS3159BRangeWrong)

end Rows
end Go.Proofs.Ybulkbmka
