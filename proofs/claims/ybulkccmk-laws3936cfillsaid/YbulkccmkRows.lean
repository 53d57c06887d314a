/-
  No cell of these rows narrows 'for every input' (looked for: loops, veiled, ifaces, maps, wideKeys, modest, calm, conditions, laid).
  DERIVED. THE GIVEN ROWS OF THIS SEAT. 2 by the template 'for every input the law returns true; each argument reads behind the call as it read before'; 0 by the template 'total and deterministic' (their statements: YbulkccmkTotals.lean).
  GIVEN WITH THE SEED: the statements are not yours to turn. If you find one false, say at which input.
  Laid BY PROGRAM, IN A SANDBOX (cutbox-rows.mjs): the forced cells as the released guide's own fill.sh prints them over the translation 2787b1954f7917e7… (all of the seat's roots in one cut). By AI agents, Wed Nov 11 2026. No macro, syntax, notation, axiom, sorry.
-/
import Derived.Test.YbulkccmkChecked
import GoSem.Claim
import GoSem.ClaimJoined
import GoSem.ClaimMapViews
import Derived.JoinedTies
import Derived.KernelRfl
namespace Go.Proofs.Ybulkccmk
/- THE CELL 'sum', in the pinned program and in every row, IS THE sha256 OF THE DUMP (.gsa) THAT YbulkccmkProg.lean LOADS. Nothing in Lean hashes anything: it is a label: what it is worth is what the hold of that sum in a sandbox is worth. -/
noncomputable def Yba.pinned : Pinned := { name := "ybulkccmk", sum := "2787b1954f7917e707db5a0d7722d4ff8674febdc218cae70a0f24fe3c172bb2", checked := Yba.checked }
namespace Rows
def none {H : Type} : Left H := { results := [], args := [] }

/-- 'queue.LawS3936CKeep': WHATEVER THE INPUT: true; the input reads as it did. -/
def lawS3936CKeepSpec : ChangeSpec := { name := "lawS3936CKeep", fn := fun _ => fun
  | [d1, d2] => { results := [.lit (.bool true)], args := [d1, d2] }
  | _ => none }
def lawS3936CKeepRow : OpenClaim := { program := "ybulkccmk", sum := "2787b1954f7917e707db5a0d7722d4ff8674febdc218cae70a0f24fe3c172bb2", func := "example.com/mailferry/mailferry/queue.LawS3936CKeep", spec := "lawS3936CKeep", inPlace := ["(*internal/sync.Mutex).Lock", "internal/race.Disable", "sync/atomic.CompareAndSwapInt32", "internal/race.Enable", "internal/race.Acquire", "(*internal/sync.Mutex).lockSlow", "internal/sync.runtime_canSpin", "internal/sync.runtime_doSpin", "internal/sync.throw", "internal/sync.runtime_nanotime", "internal/sync.runtime_SemacquireMutex", "sync/atomic.AddInt32", "(*internal/sync.Mutex).Unlock", "internal/race.ReleaseMerge", "(*internal/sync.Mutex).unlockSlow", "internal/sync.fatal", "internal/sync.runtime_Semrelease"], apart := false }
def LawS3936CKeepSaid : Prop := lawS3936CKeepRow.holds Yba.pinned (OpenSpec.ofChange lawS3936CKeepSpec)

/-- ITS FALSE NEIGHBOUR: 'it returns false'. Refute it at one input. -/
def lawS3936CKeepWrong : ChangeSpec := { name := "lawS3936CKeep", fn := fun _ => fun
  | [d1, d2] => { results := [.lit (.bool false)], args := [d1, d2] }
  | _ => none }
def LawS3936CKeepWrongFalsely : Prop := lawS3936CKeepRow.holds Yba.pinned (OpenSpec.ofChange lawS3936CKeepWrong)

/-- 'queue.LawS3936CFill': WHATEVER THE INPUT: true; the input reads as it did. -/
def lawS3936CFillSpec : ChangeSpec := { name := "lawS3936CFill", fn := fun _ => fun
  | [d] => { results := [.lit (.bool true)], args := [d] }
  | _ => none }
def lawS3936CFillRow : OpenClaim := { program := "ybulkccmk", sum := "2787b1954f7917e707db5a0d7722d4ff8674febdc218cae70a0f24fe3c172bb2", func := "example.com/mailferry/mailferry/queue.LawS3936CFill", spec := "lawS3936CFill", inPlace := ["(*internal/sync.Mutex).Lock", "internal/race.Disable", "sync/atomic.CompareAndSwapInt32", "internal/race.Enable", "internal/race.Acquire", "(*internal/sync.Mutex).lockSlow", "internal/sync.runtime_canSpin", "internal/sync.runtime_doSpin", "internal/sync.throw", "internal/sync.runtime_nanotime", "internal/sync.runtime_SemacquireMutex", "sync/atomic.AddInt32", "(*internal/sync.Mutex).Unlock", "internal/race.ReleaseMerge", "(*internal/sync.Mutex).unlockSlow", "internal/sync.fatal", "internal/sync.runtime_Semrelease"], apart := false }
def LawS3936CFillSaid : Prop := lawS3936CFillRow.holds Yba.pinned (OpenSpec.ofChange lawS3936CFillSpec)

/-- ITS FALSE NEIGHBOUR: 'it returns false'. Refute it at one input. -/
def lawS3936CFillWrong : ChangeSpec := { name := "lawS3936CFill", fn := fun _ => fun
  | [d] => { results := [.lit (.bool false)], args := [d] }
  | _ => none }
def LawS3936CFillWrongFalsely : Prop := lawS3936CFillRow.holds Yba.pinned (OpenSpec.ofChange lawS3936CFillWrong)

end Rows
end Go.Proofs.Ybulkccmk
