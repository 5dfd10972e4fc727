/-
  NARROWER THAN 'FOR EVERY INPUT', by the rows' own cells (each row's printed sentence says how): LawS3986AIndexed: maps.
  DERIVED. THE GIVEN ROWS OF THIS SEAT. 5 by the template 'for every input the law returns true; each argument reads behind the call as it read before'; 0 by the template 'total and deterministic' (their statements: YbulkcdniTotals.lean).
  GIVEN WITH THE SEED: the statements are not yours to turn. If you find one false, say at which input.
  Laid BY PROGRAM, IN A SANDBOX (cutbox-rows.mjs): the forced cells as the released guide's own fill.sh prints them over the translation 92f8b962f2ce39d0… (all of the seat's roots in one cut). By AI agents, Wed Nov 11 2026. No macro, syntax, notation, axiom, sorry.
-/
import Derived.Test.YbulkcdniChecked
import GoSem.Claim
import GoSem.ClaimJoined
import GoSem.ClaimMapViews
import Derived.JoinedTies
import Derived.KernelRfl
namespace Go.Proofs.Ybulkcdni
/- THE CELL 'sum', in the pinned program and in every row, IS THE sha256 OF THE DUMP (.gsa) THAT YbulkcdniProg.lean LOADS. Nothing in Lean hashes anything: it is a label: what it is worth is what the hold of that sum in a sandbox is worth. -/
noncomputable def Yba.pinned : Pinned := { name := "ybulkcdni", sum := "92f8b962f2ce39d005451abc33702e0f8075fac03b558e4aac3b430ce55b701f", checked := Yba.checked }
namespace Rows
def none {H : Type} : Left H := { results := [], args := [] }

/-- 'sfv.LawS3986ASearch': WHATEVER THE INPUT: true; the input reads as it did. -/
def lawS3986ASearchSpec : ChangeSpec := { name := "lawS3986ASearch", fn := fun _ => fun
  | [d1, d2, d3, d4] => { results := [.lit (.bool true)], args := [d1, d2, d3, d4] }
  | _ => none }
def lawS3986ASearchRow : OpenClaim := { program := "ybulkcdni", sum := "92f8b962f2ce39d005451abc33702e0f8075fac03b558e4aac3b430ce55b701f", func := "example.com/libhooksig/libhooksig/internal/sfv.LawS3986ASearch", spec := "lawS3986ASearch", unfollowed := true, recurses := true, apart := false }
def LawS3986ASearchSaid : Prop := lawS3986ASearchRow.holds Yba.pinned (OpenSpec.ofChange lawS3986ASearchSpec)

/-- ITS FALSE NEIGHBOUR: 'it returns false'. Refute it at one input. -/
def lawS3986ASearchWrong : ChangeSpec := { name := "lawS3986ASearch", fn := fun _ => fun
  | [d1, d2, d3, d4] => { results := [.lit (.bool false)], args := [d1, d2, d3, d4] }
  | _ => none }
def LawS3986ASearchWrongFalsely : Prop := lawS3986ASearchRow.holds Yba.pinned (OpenSpec.ofChange lawS3986ASearchWrong)

/-- 'sfv.LawS3986AIndexed': WHATEVER THE INPUT: true; the input reads as it did. -/
def lawS3986AIndexedSpec : ChangeSpec := { name := "lawS3986AIndexed", fn := fun _ => fun
  | [d1, d2, d3, d4, d5] => { results := [.lit (.bool true)], args := [d1, d2, d3, d4, d5] }
  | _ => none }
def lawS3986AIndexedRow : OpenClaim := { program := "ybulkcdni", sum := "92f8b962f2ce39d005451abc33702e0f8075fac03b558e4aac3b430ce55b701f", func := "example.com/libhooksig/libhooksig/internal/sfv.LawS3986AIndexed", spec := "lawS3986AIndexed", unfollowed := true, recurses := true, maps := true, apart := false }
def LawS3986AIndexedSaid : Prop := lawS3986AIndexedRow.holds Yba.pinned (OpenSpec.ofChange lawS3986AIndexedSpec)

/-- ITS FALSE NEIGHBOUR: 'it returns false'. Refute it at one input. -/
def lawS3986AIndexedWrong : ChangeSpec := { name := "lawS3986AIndexed", fn := fun _ => fun
  | [d1, d2, d3, d4, d5] => { results := [.lit (.bool false)], args := [d1, d2, d3, d4, d5] }
  | _ => none }
def LawS3986AIndexedWrongFalsely : Prop := lawS3986AIndexedRow.holds Yba.pinned (OpenSpec.ofChange lawS3986AIndexedWrong)

/-- 'sfv.LawS3986AAgree': WHATEVER THE INPUT: true; the input reads as it did. -/
def lawS3986AAgreeSpec : ChangeSpec := { name := "lawS3986AAgree", fn := fun _ => fun
  | [d1, d2, d3, d4] => { results := [.lit (.bool true)], args := [d1, d2, d3, d4] }
  | _ => none }
def lawS3986AAgreeRow : OpenClaim := { program := "ybulkcdni", sum := "92f8b962f2ce39d005451abc33702e0f8075fac03b558e4aac3b430ce55b701f", func := "example.com/libhooksig/libhooksig/internal/sfv.LawS3986AAgree", spec := "lawS3986AAgree", unfollowed := true, recurses := true, apart := false }
def LawS3986AAgreeSaid : Prop := lawS3986AAgreeRow.holds Yba.pinned (OpenSpec.ofChange lawS3986AAgreeSpec)

/-- ITS FALSE NEIGHBOUR: 'it returns false'. Refute it at one input. -/
def lawS3986AAgreeWrong : ChangeSpec := { name := "lawS3986AAgree", fn := fun _ => fun
  | [d1, d2, d3, d4] => { results := [.lit (.bool false)], args := [d1, d2, d3, d4] }
  | _ => none }
def LawS3986AAgreeWrongFalsely : Prop := lawS3986AAgreeRow.holds Yba.pinned (OpenSpec.ofChange lawS3986AAgreeWrong)

/-- 'sfv.LawS3986CAgreesWithDecode': WHATEVER THE INPUT: true; the input reads as it did. -/
def lawS3986CAgreesWithDecodeSpec : ChangeSpec := { name := "lawS3986CAgreesWithDecode", fn := fun _ => fun
  | [d1, d2] => { results := [.lit (.bool true)], args := [d1, d2] }
  | _ => none }
def lawS3986CAgreesWithDecodeRow : OpenClaim := { program := "ybulkcdni", sum := "92f8b962f2ce39d005451abc33702e0f8075fac03b558e4aac3b430ce55b701f", func := "example.com/libhooksig/libhooksig/internal/sfv.LawS3986CAgreesWithDecode", spec := "lawS3986CAgreesWithDecode", inPlace := ["internal/bytealg.IndexByteString"], apart := false }
def LawS3986CAgreesWithDecodeSaid : Prop := lawS3986CAgreesWithDecodeRow.holds Yba.pinned (OpenSpec.ofChange lawS3986CAgreesWithDecodeSpec)

/-- ITS FALSE NEIGHBOUR: 'it returns false'. Refute it at one input. -/
def lawS3986CAgreesWithDecodeWrong : ChangeSpec := { name := "lawS3986CAgreesWithDecode", fn := fun _ => fun
  | [d1, d2] => { results := [.lit (.bool false)], args := [d1, d2] }
  | _ => none }
def LawS3986CAgreesWithDecodeWrongFalsely : Prop := lawS3986CAgreesWithDecodeRow.holds Yba.pinned (OpenSpec.ofChange lawS3986CAgreesWithDecodeWrong)

/-- 'sfv.LawS3986CAcceptsEncoded': WHATEVER THE INPUT: true; the input reads as it did. -/
def lawS3986CAcceptsEncodedSpec : ChangeSpec := { name := "lawS3986CAcceptsEncoded", fn := fun _ => fun
  | [d1, d2] => { results := [.lit (.bool true)], args := [d1, d2] }
  | _ => none }
def lawS3986CAcceptsEncodedRow : OpenClaim := { program := "ybulkcdni", sum := "92f8b962f2ce39d005451abc33702e0f8075fac03b558e4aac3b430ce55b701f", func := "example.com/libhooksig/libhooksig/internal/sfv.LawS3986CAcceptsEncoded", spec := "lawS3986CAcceptsEncoded", inPlace := ["internal/bytealg.IndexByteString"], apart := false }
def LawS3986CAcceptsEncodedSaid : Prop := lawS3986CAcceptsEncodedRow.holds Yba.pinned (OpenSpec.ofChange lawS3986CAcceptsEncodedSpec)

/-- ITS FALSE NEIGHBOUR: 'it returns false'. Refute it at one input. -/
def lawS3986CAcceptsEncodedWrong : ChangeSpec := { name := "lawS3986CAcceptsEncoded", fn := fun _ => fun
  | [d1, d2] => { results := [.lit (.bool false)], args := [d1, d2] }
  | _ => none }
def LawS3986CAcceptsEncodedWrongFalsely : Prop := lawS3986CAcceptsEncodedRow.holds Yba.pinned (OpenSpec.ofChange lawS3986CAcceptsEncodedWrong)

end Rows
end Go.Proofs.Ybulkcdni
