/-
  No cell of these rows narrows 'for every input' (looked for: loops, veiled, ifaces, maps, wideKeys, modest, calm, conditions, laid).
  DERIVED. THE GIVEN ROWS OF THIS SEAT. 3 by the template 'for every input the law returns true; each argument reads behind the call as it read before'; 0 by the template 'total and deterministic' (their statements: YbulkbqbiTotals.lean).
  GIVEN WITH THE SEED: the statements are not yours to turn. If you find one false, say at which input.
  Laid BY PROGRAM, IN A SANDBOX (cutbox-rows.mjs): the forced cells as the released guide's own fill.sh prints them over the translation cd6a38b5a9f014b6… (all of the seat's roots in one cut). By AI agents, Wed Nov 11 2026. No macro, syntax, notation, axiom, sorry.
-/
import Derived.Test.YbulkbqbiChecked
import GoSem.Claim
import GoSem.ClaimJoined
import GoSem.ClaimMapViews
import Derived.JoinedTies
import Derived.KernelRfl
namespace Go.Proofs.Ybulkbqbi
/- THE CELL 'sum', in the pinned program and in every row, IS THE sha256 OF THE DUMP (.gsa) THAT YbulkbqbiProg.lean LOADS. Nothing in Lean hashes anything: it is a label: what it is worth is what the hold of that sum in a sandbox is worth. -/
noncomputable def Yba.pinned : Pinned := { name := "ybulkbqbi", sum := "cd6a38b5a9f014b65a8fd77a7e566954479b17f91e57aa12b13d1f7eccd3293f", checked := Yba.checked }
namespace Rows
def none {H : Type} : Left H := { results := [], args := [] }

/-- 'coronet.LawS3336BExact': WHATEVER THE INPUT: true; the input reads as it did. -/
def lawS3336BExactSpec : ChangeSpec := { name := "lawS3336BExact", fn := fun _ => fun
  | [d] => { results := [.lit (.bool true)], args := [d] }
  | _ => none }
def lawS3336BExactRow : OpenClaim := { program := "ybulkbqbi", sum := "cd6a38b5a9f014b65a8fd77a7e566954479b17f91e57aa12b13d1f7eccd3293f", func := "example.com/coronet/coronet.LawS3336BExact", spec := "lawS3336BExact", inPlace := ["sync/atomic.StoreUint64", "sync/atomic.LoadUint64"], apart := false }
def LawS3336BExactSaid : Prop := lawS3336BExactRow.holds Yba.pinned (OpenSpec.ofChange lawS3336BExactSpec)

/-- ITS FALSE NEIGHBOUR: 'it returns false'. Refute it at one input. -/
def lawS3336BExactWrong : ChangeSpec := { name := "lawS3336BExact", fn := fun _ => fun
  | [d] => { results := [.lit (.bool false)], args := [d] }
  | _ => none }
def LawS3336BExactWrongFalsely : Prop := lawS3336BExactRow.holds Yba.pinned (OpenSpec.ofChange lawS3336BExactWrong)

/-- 'coronet.LawS3336BTally': WHATEVER THE INPUT: true; the input reads as it did. -/
def lawS3336BTallySpec : ChangeSpec := { name := "lawS3336BTally", fn := fun _ => fun
  | [d] => { results := [.lit (.bool true)], args := [d] }
  | _ => none }
def lawS3336BTallyRow : OpenClaim := { program := "ybulkbqbi", sum := "cd6a38b5a9f014b65a8fd77a7e566954479b17f91e57aa12b13d1f7eccd3293f", func := "example.com/coronet/coronet.LawS3336BTally", spec := "lawS3336BTally", inPlace := ["sync/atomic.AddUint64", "sync/atomic.LoadUint64"], apart := false }
def LawS3336BTallySaid : Prop := lawS3336BTallyRow.holds Yba.pinned (OpenSpec.ofChange lawS3336BTallySpec)

/-- ITS FALSE NEIGHBOUR: 'it returns false'. Refute it at one input. -/
def lawS3336BTallyWrong : ChangeSpec := { name := "lawS3336BTally", fn := fun _ => fun
  | [d] => { results := [.lit (.bool false)], args := [d] }
  | _ => none }
def LawS3336BTallyWrongFalsely : Prop := lawS3336BTallyRow.holds Yba.pinned (OpenSpec.ofChange lawS3336BTallyWrong)

/-- 'coronet.LawS3336CStop': WHATEVER THE INPUT: true; the input reads as it did. -/
def lawS3336CStopSpec : ChangeSpec := { name := "lawS3336CStop", fn := fun _ => fun
  | [d1, d2, d3, d4] => { results := [.lit (.bool true)], args := [d1, d2, d3, d4] }
  | _ => none }
def lawS3336CStopRow : OpenClaim := { program := "ybulkbqbi", sum := "cd6a38b5a9f014b65a8fd77a7e566954479b17f91e57aa12b13d1f7eccd3293f", func := "example.com/coronet/coronet.LawS3336CStop", spec := "lawS3336CStop", inPlace := ["(*internal/sync.Mutex).Lock", "internal/race.Disable", "sync/atomic.CompareAndSwapInt32", "internal/race.Enable", "internal/race.Acquire", "(*internal/sync.Mutex).lockSlow", "internal/sync.runtime_canSpin", "internal/sync.runtime_doSpin", "internal/sync.throw", "internal/sync.runtime_nanotime", "internal/sync.runtime_SemacquireMutex", "sync/atomic.AddInt32", "(*internal/sync.Mutex).Unlock", "internal/race.ReleaseMerge", "(*internal/sync.Mutex).unlockSlow", "internal/sync.fatal", "internal/sync.runtime_Semrelease", "(*internal/sync.Mutex).TryLock"], apart := false }
def LawS3336CStopSaid : Prop := lawS3336CStopRow.holds Yba.pinned (OpenSpec.ofChange lawS3336CStopSpec)

/-- ITS FALSE NEIGHBOUR: 'it returns false'. Refute it at one input. -/
def lawS3336CStopWrong : ChangeSpec := { name := "lawS3336CStop", fn := fun _ => fun
  | [d1, d2, d3, d4] => { results := [.lit (.bool false)], args := [d1, d2, d3, d4] }
  | _ => none }
def LawS3336CStopWrongFalsely : Prop := lawS3336CStopRow.holds Yba.pinned (OpenSpec.ofChange lawS3336CStopWrong)

end Rows
end Go.Proofs.Ybulkbqbi
