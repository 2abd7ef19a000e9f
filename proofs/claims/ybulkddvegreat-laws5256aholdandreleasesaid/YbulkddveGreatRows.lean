/-
  No cell of these rows narrows 'for every input' (looked for: loops, veiled, ifaces, maps, wideKeys, modest, calm, conditions, laid).
  DERIVED. THE GIVEN ROWS OF THIS SEAT. 1 by the template 'for every input the law returns true; each argument reads behind the call as it read before'; 0 by the template 'total and deterministic' (their statements: YbulkddveGreatTotals.lean).
  GIVEN WITH THE SEED: the statements are not yours to turn. If you find one false, say at which input.
  Laid BY PROGRAM, IN A SANDBOX (cutbox-rows.mjs): the forced cells as the released guide's own fill.sh prints them over the translation 1a65f32422775512… (all of the seat's roots in one cut). By AI agents, Wed Nov 11 2026. No macro, syntax, notation, axiom, sorry.
-/
import Derived.Test.YbulkddveGreatChecked
import GoSem.Claim
import GoSem.ClaimJoined
import GoSem.ClaimMapViews
import Derived.JoinedTies
import Derived.KernelRfl
namespace Go.Proofs.YbulkddveGreat
/- THE CELL 'sum', in the pinned program and in every row, IS THE sha256 OF THE DUMP (.gsa) THAT YbulkddveGreatProg.lean LOADS. Nothing in Lean hashes anything: it is a label: what it is worth is what the hold of that sum in a sandbox is worth. -/
noncomputable def Ybaz.pinned : Pinned := { name := "ybulkddvegreat", sum := "1a65f32422775512935f862c4a9bb494b007fc850125222164fcfeb69a027212", checked := Ybaz.checked }
namespace Rows
def none {H : Type} : Left H := { results := [], args := [] }

/-- 'txn.LawS5256AHoldAndRelease': WHATEVER THE INPUT: true; the input reads as it did. -/
def lawS5256AHoldAndReleaseSpec : ChangeSpec := { name := "lawS5256AHoldAndRelease", fn := fun _ => fun
  | [d1, d2] => { results := [.lit (.bool true)], args := [d1, d2] }
  | _ => none }
def lawS5256AHoldAndReleaseRow : OpenClaim := { program := "ybulkddvegreat", sum := "1a65f32422775512935f862c4a9bb494b007fc850125222164fcfeb69a027212", func := "example.com/mortise/mortise/internal/txn.LawS5256AHoldAndRelease", spec := "lawS5256AHoldAndRelease", inPlace := ["(*internal/sync.Mutex).TryLock", "internal/race.Disable", "internal/race.Enable", "sync/atomic.CompareAndSwapInt32", "internal/race.Acquire", "(*internal/sync.Mutex).Unlock", "internal/race.ReleaseMerge", "sync/atomic.AddInt32", "(*internal/sync.Mutex).unlockSlow", "internal/sync.fatal", "internal/sync.runtime_Semrelease", "(*sync.RWMutex).TryLock", "internal/race.Read", "(*sync.RWMutex).Unlock", "internal/race.Release", "sync.fatal", "sync.runtime_Semrelease", "sync/atomic.LoadInt32", "(*internal/sync.Mutex).Lock", "(*internal/sync.Mutex).lockSlow", "internal/sync.runtime_canSpin", "internal/sync.runtime_doSpin", "internal/sync.throw", "internal/sync.runtime_nanotime", "internal/sync.runtime_SemacquireMutex", "(*sync.RWMutex).Lock", "sync.runtime_SemacquireRWMutex", "internal/bytealg.Compare", "(*sync.RWMutex).TryRLock", "(*sync.RWMutex).RUnlock", "(*sync.RWMutex).rUnlockSlow"], unfollowed := true, recurses := true, named := ["encoding/binary.BigEndian"], plainKeys := false, apart := false }
def LawS5256AHoldAndReleaseSaid : Prop := lawS5256AHoldAndReleaseRow.holds Ybaz.pinned (OpenSpec.ofChange lawS5256AHoldAndReleaseSpec)

/-- ITS FALSE NEIGHBOUR: 'it returns false'. Refute it at one input. -/
def lawS5256AHoldAndReleaseWrong : ChangeSpec := { name := "lawS5256AHoldAndRelease", fn := fun _ => fun
  | [d1, d2] => { results := [.lit (.bool false)], args := [d1, d2] }
  | _ => none }
def LawS5256AHoldAndReleaseWrongFalsely : Prop := lawS5256AHoldAndReleaseRow.holds Ybaz.pinned (OpenSpec.ofChange lawS5256AHoldAndReleaseWrong)

end Rows
end Go.Proofs.YbulkddveGreat
