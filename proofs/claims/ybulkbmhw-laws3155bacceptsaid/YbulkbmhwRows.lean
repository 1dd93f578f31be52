/-
  No cell of these rows narrows 'for every input' (looked for: loops, veiled, ifaces, maps, wideKeys, modest, calm, conditions, laid).
  DERIVED. THE GIVEN ROWS OF THIS SEAT. 4 by the template 'for every input the law returns true; each argument reads behind the call as it read before'; 0 by the template 'total and deterministic' (their statements: YbulkbmhwTotals.lean).
  GIVEN WITH THE SEED: the statements are not yours to turn. If you find one false, say at which input.
  Laid BY PROGRAM, IN A SANDBOX (cutbox-rows.mjs): the forced cells as the released guide's own fill.sh prints them over the translation 8cd996dcab9adfff… (all of the seat's roots in one cut). By AI agents, Wed Nov 11 2026. No macro, syntax, notation, axiom, sorry.
-/
import Derived.Test.YbulkbmhwChecked
import GoSem.Claim
import GoSem.ClaimJoined
import GoSem.ClaimMapViews
import Derived.JoinedTies
import Derived.KernelRfl
namespace Go.Proofs.Ybulkbmhw
/- THE CELL 'sum', in the pinned program and in every row, IS THE sha256 OF THE DUMP (.gsa) THAT YbulkbmhwProg.lean LOADS. Nothing in Lean hashes anything: it is a label: what it is worth is what the hold of that sum in a sandbox is worth. -/
noncomputable def Yba.pinned : Pinned := { name := "ybulkbmhw", sum := "8cd996dcab9adfff77c7a54572aa7cfc05663d97eed1ca941f401b0225d699d9", checked := Yba.checked }
namespace Rows
def none {H : Type} : Left H := { results := [], args := [] }

/-- 'clearhouse.LawS3155APicks': WHATEVER THE INPUT: true; the input reads as it did. -/
def lawS3155APicksSpec : ChangeSpec := { name := "lawS3155APicks", fn := fun _ => fun
  | [d1, d2, d3, d4, d5, d6] => { results := [.lit (.bool true)], args := [d1, d2, d3, d4, d5, d6] }
  | _ => none }
def lawS3155APicksRow : OpenClaim := { program := "ybulkbmhw", sum := "8cd996dcab9adfff77c7a54572aa7cfc05663d97eed1ca941f401b0225d699d9", func := "example.com/clearhouse/clearhouse.LawS3155APicks", spec := "lawS3155APicks", plainKeys := false, apart := false }
def LawS3155APicksSaid : Prop := lawS3155APicksRow.holds Yba.pinned (OpenSpec.ofChange lawS3155APicksSpec)

/-- ITS FALSE NEIGHBOUR: 'it returns false'. Refute it at one input. -/
def lawS3155APicksWrong : ChangeSpec := { name := "lawS3155APicks", fn := fun _ => fun
  | [d1, d2, d3, d4, d5, d6] => { results := [.lit (.bool false)], args := [d1, d2, d3, d4, d5, d6] }
  | _ => none }
def LawS3155APicksWrongFalsely : Prop := lawS3155APicksRow.holds Yba.pinned (OpenSpec.ofChange lawS3155APicksWrong)

/-- 'clearhouse.LawS3155AFirstLossSource': WHATEVER THE INPUT: true; the input reads as it did. -/
def lawS3155AFirstLossSourceSpec : ChangeSpec := { name := "lawS3155AFirstLossSource", fn := fun _ => fun
  | [d1, d2, d3, d4] => { results := [.lit (.bool true)], args := [d1, d2, d3, d4] }
  | _ => none }
def lawS3155AFirstLossSourceRow : OpenClaim := { program := "ybulkbmhw", sum := "8cd996dcab9adfff77c7a54572aa7cfc05663d97eed1ca941f401b0225d699d9", func := "example.com/clearhouse/clearhouse.LawS3155AFirstLossSource", spec := "lawS3155AFirstLossSource", plainKeys := false, apart := false }
def LawS3155AFirstLossSourceSaid : Prop := lawS3155AFirstLossSourceRow.holds Yba.pinned (OpenSpec.ofChange lawS3155AFirstLossSourceSpec)

/-- ITS FALSE NEIGHBOUR: 'it returns false'. Refute it at one input. -/
def lawS3155AFirstLossSourceWrong : ChangeSpec := { name := "lawS3155AFirstLossSource", fn := fun _ => fun
  | [d1, d2, d3, d4] => { results := [.lit (.bool false)], args := [d1, d2, d3, d4] }
  | _ => none }
def LawS3155AFirstLossSourceWrongFalsely : Prop := lawS3155AFirstLossSourceRow.holds Yba.pinned (OpenSpec.ofChange lawS3155AFirstLossSourceWrong)

/-- 'clearhouse.LawS3155BInt64': WHATEVER THE INPUT: true; the input reads as it did. -/
def lawS3155BInt64Spec : ChangeSpec := { name := "lawS3155BInt64", fn := fun _ => fun
  | [d1, d2] => { results := [.lit (.bool true)], args := [d1, d2] }
  | _ => none }
def lawS3155BInt64Row : OpenClaim := { program := "ybulkbmhw", sum := "8cd996dcab9adfff77c7a54572aa7cfc05663d97eed1ca941f401b0225d699d9", func := "example.com/clearhouse/clearhouse.LawS3155BInt64", spec := "lawS3155BInt64", inPlace := ["math/bits.Add64", "math/bits.Sub64"], plainKeys := false, apart := false }
def LawS3155BInt64Said : Prop := lawS3155BInt64Row.holds Yba.pinned (OpenSpec.ofChange lawS3155BInt64Spec)

/-- ITS FALSE NEIGHBOUR: 'it returns false'. Refute it at one input. -/
def lawS3155BInt64Wrong : ChangeSpec := { name := "lawS3155BInt64", fn := fun _ => fun
  | [d1, d2] => { results := [.lit (.bool false)], args := [d1, d2] }
  | _ => none }
def LawS3155BInt64WrongFalsely : Prop := lawS3155BInt64Row.holds Yba.pinned (OpenSpec.ofChange lawS3155BInt64Wrong)

/-- 'clearhouse.LawS3155BAccept': WHATEVER THE INPUT: true; the input reads as it did. -/
def lawS3155BAcceptSpec : ChangeSpec := { name := "lawS3155BAccept", fn := fun _ => fun
  | [d] => { results := [.lit (.bool true)], args := [d] }
  | _ => none }
def lawS3155BAcceptRow : OpenClaim := { program := "ybulkbmhw", sum := "8cd996dcab9adfff77c7a54572aa7cfc05663d97eed1ca941f401b0225d699d9", func := "example.com/clearhouse/clearhouse.LawS3155BAccept", spec := "lawS3155BAccept", inPlace := ["math/bits.Add64", "math/bits.Sub64"], plainKeys := false, apart := false }
def LawS3155BAcceptSaid : Prop := lawS3155BAcceptRow.holds Yba.pinned (OpenSpec.ofChange lawS3155BAcceptSpec)

/-- ITS FALSE NEIGHBOUR: 'it returns false'. Refute it at one input. -/
def lawS3155BAcceptWrong : ChangeSpec := { name := "lawS3155BAccept", fn := fun _ => fun
  | [d] => { results := [.lit (.bool false)], args := [d] }
  | _ => none }
def LawS3155BAcceptWrongFalsely : Prop := lawS3155BAcceptRow.holds Yba.pinned (OpenSpec.ofChange lawS3155BAcceptWrong)

end Rows
end Go.Proofs.Ybulkbmhw
