/-
  No cell of these rows narrows 'for every input' (looked for: loops, veiled, ifaces, maps, wideKeys, modest, calm, conditions, laid).
  DERIVED. THE GIVEN ROWS OF THIS SEAT. 2 by the template 'for every input the law returns true; each argument reads behind the call as it read before'; 0 by the template 'total and deterministic' (their statements: YbulkbqxyTotals.lean).
  GIVEN WITH THE SEED: the statements are not yours to turn. If you find one false, say at which input.
  Laid BY PROGRAM, IN A SANDBOX (cutbox-rows.mjs): the forced cells as the released guide's own fill.sh prints them over the translation a1bd0b1867a8d027… (all of the seat's roots in one cut). By AI agents, Wed Nov 11 2026. No macro, syntax, notation, axiom, sorry.
-/
import Derived.Test.YbulkbqxyChecked
import GoSem.Claim
import GoSem.ClaimJoined
import GoSem.ClaimMapViews
import Derived.JoinedTies
import Derived.KernelRfl
namespace Go.Proofs.Ybulkbqxy
/- THE CELL 'sum', in the pinned program and in every row, IS THE sha256 OF THE DUMP (.gsa) THAT YbulkbqxyProg.lean LOADS. Nothing in Lean hashes anything: it is a label: what it is worth is what the hold of that sum in a sandbox is worth. -/
noncomputable def Yba.pinned : Pinned := { name := "ybulkbqxy", sum := "a1bd0b1867a8d027cc4880d406ed6f0e515f872ca144c32a556fc364f8abdae2", checked := Yba.checked }
namespace Rows
def none {H : Type} : Left H := { results := [], args := [] }

/-- 'waterline.LawS3378BFirstFlagged': WHATEVER THE INPUT: true; the input reads as it did. -/
def lawS3378BFirstFlaggedSpec : ChangeSpec := { name := "lawS3378BFirstFlagged", fn := fun _ => fun
  | [d] => { results := [.lit (.bool true)], args := [d] }
  | _ => none }
def lawS3378BFirstFlaggedRow : OpenClaim := { program := "ybulkbqxy", sum := "a1bd0b1867a8d027cc4880d406ed6f0e515f872ca144c32a556fc364f8abdae2", func := "example.com/waterline/waterline.LawS3378BFirstFlagged", spec := "lawS3378BFirstFlagged", apart := false }
def LawS3378BFirstFlaggedSaid : Prop := lawS3378BFirstFlaggedRow.holds Yba.pinned (OpenSpec.ofChange lawS3378BFirstFlaggedSpec)

/-- ITS FALSE NEIGHBOUR: 'it returns false'. Refute it at one input. -/
def lawS3378BFirstFlaggedWrong : ChangeSpec := { name := "lawS3378BFirstFlagged", fn := fun _ => fun
  | [d] => { results := [.lit (.bool false)], args := [d] }
  | _ => none }
def LawS3378BFirstFlaggedWrongFalsely : Prop := lawS3378BFirstFlaggedRow.holds Yba.pinned (OpenSpec.ofChange lawS3378BFirstFlaggedWrong)

/-- 'waterline.LawS3378CPicks': WHATEVER THE INPUT: true; the input reads as it did. -/
def lawS3378CPicksSpec : ChangeSpec := { name := "lawS3378CPicks", fn := fun _ => fun
  | [d1, d2, d3, d4] => { results := [.lit (.bool true)], args := [d1, d2, d3, d4] }
  | _ => none }
def lawS3378CPicksRow : OpenClaim := { program := "ybulkbqxy", sum := "a1bd0b1867a8d027cc4880d406ed6f0e515f872ca144c32a556fc364f8abdae2", func := "example.com/waterline/waterline.LawS3378CPicks", spec := "lawS3378CPicks", apart := false }
def LawS3378CPicksSaid : Prop := lawS3378CPicksRow.holds Yba.pinned (OpenSpec.ofChange lawS3378CPicksSpec)

/-- ITS FALSE NEIGHBOUR: 'it returns false'. Refute it at one input. -/
def lawS3378CPicksWrong : ChangeSpec := { name := "lawS3378CPicks", fn := fun _ => fun
  | [d1, d2, d3, d4] => { results := [.lit (.bool false)], args := [d1, d2, d3, d4] }
  | _ => none }
def LawS3378CPicksWrongFalsely : Prop := lawS3378CPicksRow.holds Yba.pinned (OpenSpec.ofChange lawS3378CPicksWrong)

end Rows
end Go.Proofs.Ybulkbqxy
