/-
  No cell of these rows narrows 'for every input' (looked for: loops, veiled, ifaces, maps, wideKeys, modest, calm, conditions, laid).
  DERIVED. THE GIVEN ROWS OF THIS SEAT. 1 by the template 'for every input the law returns true; each argument reads behind the call as it read before'; 0 by the template 'total and deterministic' (their statements: Qxb6612697aTotals.lean).
  GIVEN WITH THE SEED: the statements are not yours to turn. If you find one false, say at which input.
  Laid BY PROGRAM, IN A SANDBOX (cutbox-rows.mjs): the forced cells as the released guide's own fill.sh prints them over the translation 6c47322e2ac03080… (all of the seat's roots in one cut). By AI agents, Wed Nov 11 2026. No macro, syntax, notation, axiom, sorry.
-/
import Derived.Test.Qxb6612697aChecked
import GoSem.Claim
import GoSem.ClaimJoined
import GoSem.ClaimMapViews
import Derived.JoinedTies
import Derived.KernelRfl
namespace Go.Proofs.Qxb6612697a
/- THE CELL 'sum', in the pinned program and in every row, IS THE sha256 OF THE DUMP (.gsa) THAT Qxb6612697aProg.lean LOADS. Nothing in Lean hashes anything: it is a label: what it is worth is what the hold of that sum in a sandbox is worth. -/
noncomputable def Try.pinned : Pinned := { name := "qxb6612697a", sum := "6c47322e2ac03080839833b1e6c12d81bf49d253c603a19226fa8a12ec25e6d2", checked := Try.checked }
namespace Rows
def none {H : Type} : Left H := { results := [], args := [] }

/-- 'zzlaws_root_b1.FnOpenCountNoneClosesWhenTheCountFallsToZero': WHATEVER THE INPUT: true; the input reads as it did. -/
def fnOpenCountNoneClosesWhenTheCountFallsToZeroSpec : ChangeSpec := { name := "fnOpenCountNoneClosesWhenTheCountFallsToZero", fn := fun _ => fun
  | [d1, d2] => { results := [.lit (.bool true)], args := [d1, d2] }
  | _ => none }
def fnOpenCountNoneClosesWhenTheCountFallsToZeroRow : OpenClaim := { program := "qxb6612697a", sum := "6c47322e2ac03080839833b1e6c12d81bf49d253c603a19226fa8a12ec25e6d2", func := "example.com/quiethalt/quiethalt/zzlaws_root_b1.FnOpenCountNoneClosesWhenTheCountFallsToZero", spec := "fnOpenCountNoneClosesWhenTheCountFallsToZero", inPlace := ["sync/atomic.StoreInt64", "sync/atomic.AddInt64", "sync/atomic.LoadUint32", "(*internal/sync.Mutex).Lock", "internal/race.Disable", "sync/atomic.CompareAndSwapInt32", "internal/race.Enable", "internal/race.Acquire", "(*internal/sync.Mutex).lockSlow", "internal/sync.runtime_canSpin", "internal/sync.runtime_doSpin", "internal/sync.throw", "internal/sync.runtime_nanotime", "internal/sync.runtime_SemacquireMutex", "sync/atomic.AddInt32", "(*internal/sync.Mutex).Unlock", "internal/race.ReleaseMerge", "(*internal/sync.Mutex).unlockSlow", "internal/sync.fatal", "internal/sync.runtime_Semrelease", "sync/atomic.StoreUint32", "sync/atomic.LoadInt64"], unfollowed := true, recurses := true, apart := false }
def FnOpenCountNoneClosesWhenTheCountFallsToZeroSaid : Prop := fnOpenCountNoneClosesWhenTheCountFallsToZeroRow.holds Try.pinned (OpenSpec.ofChange fnOpenCountNoneClosesWhenTheCountFallsToZeroSpec)

/-- ITS FALSE NEIGHBOUR: 'it returns false'. Refute it at one input. -/
def fnOpenCountNoneClosesWhenTheCountFallsToZeroWrong : ChangeSpec := { name := "fnOpenCountNoneClosesWhenTheCountFallsToZero", fn := fun _ => fun
  | [d1, d2] => { results := [.lit (.bool false)], args := [d1, d2] }
  | _ => none }
def FnOpenCountNoneClosesWhenTheCountFallsToZeroWrongFalsely : Prop := fnOpenCountNoneClosesWhenTheCountFallsToZeroRow.holds Try.pinned (OpenSpec.ofChange fnOpenCountNoneClosesWhenTheCountFallsToZeroWrong)

end Rows
end Go.Proofs.Qxb6612697a
