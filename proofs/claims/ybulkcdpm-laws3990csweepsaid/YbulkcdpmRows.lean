/-
  No cell of these rows narrows 'for every input' (looked for: loops, veiled, ifaces, maps, wideKeys, modest, calm, conditions, laid).
  DERIVED. THE GIVEN ROWS OF THIS SEAT. 2 by the template 'for every input the law returns true; each argument reads behind the call as it read before'; 0 by the template 'total and deterministic' (their statements: YbulkcdpmTotals.lean).
  GIVEN WITH THE SEED: the statements are not yours to turn. If you find one false, say at which input.
  Laid BY PROGRAM, IN A SANDBOX (cutbox-rows.mjs): the forced cells as the released guide's own fill.sh prints them over the translation 48ff57713266e578… (all of the seat's roots in one cut). By AI agents, Wed Nov 11 2026. No macro, syntax, notation, axiom, sorry.
-/
import Derived.Test.YbulkcdpmChecked
import GoSem.Claim
import GoSem.ClaimJoined
import GoSem.ClaimMapViews
import Derived.JoinedTies
import Derived.KernelRfl
namespace Go.Proofs.Ybulkcdpm
/- THE CELL 'sum', in the pinned program and in every row, IS THE sha256 OF THE DUMP (.gsa) THAT YbulkcdpmProg.lean LOADS. Nothing in Lean hashes anything: it is a label: what it is worth is what the hold of that sum in a sandbox is worth. -/
noncomputable def Yba.pinned : Pinned := { name := "ybulkcdpm", sum := "48ff57713266e578968146d34c746b5f605c17caefbdc798da7861575c597a86", checked := Yba.checked }
namespace Rows
def none {H : Type} : Left H := { results := [], args := [] }

/-- 'protocol.LawS3990CSweep': WHATEVER THE INPUT: true; the input reads as it did. -/
def lawS3990CSweepSpec : ChangeSpec := { name := "lawS3990CSweep", fn := fun _ => fun
  | [d1, d2, d3, d4, d5, d6, d7] => { results := [.lit (.bool true)], args := [d1, d2, d3, d4, d5, d6, d7] }
  | _ => none }
def lawS3990CSweepRow : OpenClaim := { program := "ybulkcdpm", sum := "48ff57713266e578968146d34c746b5f605c17caefbdc798da7861575c597a86", func := "example.com/quorate/quorate/protocol.LawS3990CSweep", spec := "lawS3990CSweep", inPlace := ["(*internal/sync.Mutex).Lock", "internal/race.Disable", "sync/atomic.CompareAndSwapInt32", "internal/race.Enable", "internal/race.Acquire", "(*internal/sync.Mutex).lockSlow", "internal/sync.runtime_canSpin", "internal/sync.runtime_doSpin", "internal/sync.throw", "internal/sync.runtime_nanotime", "internal/sync.runtime_SemacquireMutex", "sync/atomic.AddInt32", "(*internal/sync.Mutex).Unlock", "internal/race.ReleaseMerge", "(*internal/sync.Mutex).unlockSlow", "internal/sync.fatal", "internal/sync.runtime_Semrelease"], unfollowed := true, recurses := true, apart := false }
def LawS3990CSweepSaid : Prop := lawS3990CSweepRow.holds Yba.pinned (OpenSpec.ofChange lawS3990CSweepSpec)

/-- ITS FALSE NEIGHBOUR: 'it returns false'. Refute it at one input. -/
def lawS3990CSweepWrong : ChangeSpec := { name := "lawS3990CSweep", fn := fun _ => fun
  | [d1, d2, d3, d4, d5, d6, d7] => { results := [.lit (.bool false)], args := [d1, d2, d3, d4, d5, d6, d7] }
  | _ => none }
def LawS3990CSweepWrongFalsely : Prop := lawS3990CSweepRow.holds Yba.pinned (OpenSpec.ofChange lawS3990CSweepWrong)

/-- 'protocol.LawS3990CClock': WHATEVER THE INPUT: true; the input reads as it did. -/
def lawS3990CClockSpec : ChangeSpec := { name := "lawS3990CClock", fn := fun _ => fun
  | [d1, d2, d3, d4, d5, d6] => { results := [.lit (.bool true)], args := [d1, d2, d3, d4, d5, d6] }
  | _ => none }
def lawS3990CClockRow : OpenClaim := { program := "ybulkcdpm", sum := "48ff57713266e578968146d34c746b5f605c17caefbdc798da7861575c597a86", func := "example.com/quorate/quorate/protocol.LawS3990CClock", spec := "lawS3990CClock", inPlace := ["(*internal/sync.Mutex).Lock", "internal/race.Disable", "sync/atomic.CompareAndSwapInt32", "internal/race.Enable", "internal/race.Acquire", "(*internal/sync.Mutex).lockSlow", "internal/sync.runtime_canSpin", "internal/sync.runtime_doSpin", "internal/sync.throw", "internal/sync.runtime_nanotime", "internal/sync.runtime_SemacquireMutex", "sync/atomic.AddInt32", "(*internal/sync.Mutex).Unlock", "internal/race.ReleaseMerge", "(*internal/sync.Mutex).unlockSlow", "internal/sync.fatal", "internal/sync.runtime_Semrelease"], unfollowed := true, recurses := true, apart := false }
def LawS3990CClockSaid : Prop := lawS3990CClockRow.holds Yba.pinned (OpenSpec.ofChange lawS3990CClockSpec)

/-- ITS FALSE NEIGHBOUR: 'it returns false'. Refute it at one input. -/
def lawS3990CClockWrong : ChangeSpec := { name := "lawS3990CClock", fn := fun _ => fun
  | [d1, d2, d3, d4, d5, d6] => { results := [.lit (.bool false)], args := [d1, d2, d3, d4, d5, d6] }
  | _ => none }
def LawS3990CClockWrongFalsely : Prop := lawS3990CClockRow.holds Yba.pinned (OpenSpec.ofChange lawS3990CClockWrong)

end Rows
end Go.Proofs.Ybulkcdpm
