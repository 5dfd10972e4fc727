/-
  No cell of these rows narrows 'for every input' (looked for: loops, veiled, ifaces, maps, wideKeys, modest, calm, conditions, laid).
  DERIVED. THE GIVEN ROWS OF THIS SEAT. 3 by the template 'for every input the law returns true; each argument reads behind the call as it read before'; 0 by the template 'total and deterministic' (their statements: YbulkcdjaTotals.lean).
  GIVEN WITH THE SEED: the statements are not yours to turn. If you find one false, say at which input.
  Laid BY PROGRAM, IN A SANDBOX (cutbox-rows.mjs): the forced cells as the released guide's own fill.sh prints them over the translation 1ac9c9fec9cfdc31… (all of the seat's roots in one cut). By AI agents, Wed Nov 11 2026. No macro, syntax, notation, axiom, sorry.
-/
import Derived.Test.YbulkcdjaChecked
import GoSem.Claim
import GoSem.ClaimJoined
import GoSem.ClaimMapViews
import Derived.JoinedTies
import Derived.KernelRfl
namespace Go.Proofs.Ybulkcdja
/- THE CELL 'sum', in the pinned program and in every row, IS THE sha256 OF THE DUMP (.gsa) THAT YbulkcdjaProg.lean LOADS. Nothing in Lean hashes anything: it is a label: what it is worth is what the hold of that sum in a sandbox is worth. -/
noncomputable def Yba.pinned : Pinned := { name := "ybulkcdja", sum := "1ac9c9fec9cfdc31525af7a8b8315b0270328a7f7d596f280e1a9d01a389346b", checked := Yba.checked }
namespace Rows
def none {H : Type} : Left H := { results := [], args := [] }

/-- 'vinden.LawS3978AExact': WHATEVER THE INPUT: true; the input reads as it did. -/
def lawS3978AExactSpec : ChangeSpec := { name := "lawS3978AExact", fn := fun _ => fun
  | [d1, d2] => { results := [.lit (.bool true)], args := [d1, d2] }
  | _ => none }
def lawS3978AExactRow : OpenClaim := { program := "ybulkcdja", sum := "1ac9c9fec9cfdc31525af7a8b8315b0270328a7f7d596f280e1a9d01a389346b", func := "example.com/vinden/vinden.LawS3978AExact", spec := "lawS3978AExact", apart := false }
def LawS3978AExactSaid : Prop := lawS3978AExactRow.holds Yba.pinned (OpenSpec.ofChange lawS3978AExactSpec)

/-- ITS FALSE NEIGHBOUR: 'it returns false'. Refute it at one input. -/
def lawS3978AExactWrong : ChangeSpec := { name := "lawS3978AExact", fn := fun _ => fun
  | [d1, d2] => { results := [.lit (.bool false)], args := [d1, d2] }
  | _ => none }
def LawS3978AExactWrongFalsely : Prop := lawS3978AExactRow.holds Yba.pinned (OpenSpec.ofChange lawS3978AExactWrong)

/-- 'vinden.LawS3978AIdealFree': WHATEVER THE INPUT: true; the input reads as it did. -/
def lawS3978AIdealFreeSpec : ChangeSpec := { name := "lawS3978AIdealFree", fn := fun _ => fun
  | [d1, d2] => { results := [.lit (.bool true)], args := [d1, d2] }
  | _ => none }
def lawS3978AIdealFreeRow : OpenClaim := { program := "ybulkcdja", sum := "1ac9c9fec9cfdc31525af7a8b8315b0270328a7f7d596f280e1a9d01a389346b", func := "example.com/vinden/vinden.LawS3978AIdealFree", spec := "lawS3978AIdealFree", apart := false }
def LawS3978AIdealFreeSaid : Prop := lawS3978AIdealFreeRow.holds Yba.pinned (OpenSpec.ofChange lawS3978AIdealFreeSpec)

/-- ITS FALSE NEIGHBOUR: 'it returns false'. Refute it at one input. -/
def lawS3978AIdealFreeWrong : ChangeSpec := { name := "lawS3978AIdealFree", fn := fun _ => fun
  | [d1, d2] => { results := [.lit (.bool false)], args := [d1, d2] }
  | _ => none }
def LawS3978AIdealFreeWrongFalsely : Prop := lawS3978AIdealFreeRow.holds Yba.pinned (OpenSpec.ofChange lawS3978AIdealFreeWrong)

/-- 'analysis.LawS3978CPicksLongest': WHATEVER THE INPUT: true; the input reads as it did. -/
def lawS3978CPicksLongestSpec : ChangeSpec := { name := "lawS3978CPicksLongest", fn := fun _ => fun
  | [d1, d2, d3] => { results := [.lit (.bool true)], args := [d1, d2, d3] }
  | _ => none }
def lawS3978CPicksLongestRow : OpenClaim := { program := "ybulkcdja", sum := "1ac9c9fec9cfdc31525af7a8b8315b0270328a7f7d596f280e1a9d01a389346b", func := "example.com/vinden/vinden/internal/analysis.LawS3978CPicksLongest", spec := "lawS3978CPicksLongest", apart := false }
def LawS3978CPicksLongestSaid : Prop := lawS3978CPicksLongestRow.holds Yba.pinned (OpenSpec.ofChange lawS3978CPicksLongestSpec)

/-- ITS FALSE NEIGHBOUR: 'it returns false'. Refute it at one input. -/
def lawS3978CPicksLongestWrong : ChangeSpec := { name := "lawS3978CPicksLongest", fn := fun _ => fun
  | [d1, d2, d3] => { results := [.lit (.bool false)], args := [d1, d2, d3] }
  | _ => none }
def LawS3978CPicksLongestWrongFalsely : Prop := lawS3978CPicksLongestRow.holds Yba.pinned (OpenSpec.ofChange lawS3978CPicksLongestWrong)

end Rows
end Go.Proofs.Ybulkcdja
