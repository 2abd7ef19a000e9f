/-
  No cell of these rows narrows 'for every input' (looked for: loops, veiled, ifaces, maps, wideKeys, modest, calm, conditions, laid).
  DERIVED. THE GIVEN ROWS OF THIS SEAT. 3 by the template 'for every input the law returns true; each argument reads behind the call as it read before'; 0 by the template 'total and deterministic' (their statements: YbulkdebcTotals.lean).
  GIVEN WITH THE SEED: the statements are not yours to turn. If you find one false, say at which input.
  Laid BY PROGRAM, IN A SANDBOX (cutbox-rows.mjs): the forced cells as the released guide's own fill.sh prints them over the translation c743b68261cec7af… (all of the seat's roots in one cut). By AI agents, Wed Nov 11 2026. No macro, syntax, notation, axiom, sorry.
-/
import Derived.Test.YbulkdebcChecked
import GoSem.Claim
import GoSem.ClaimJoined
import GoSem.ClaimMapViews
import Derived.JoinedTies
import Derived.KernelRfl
namespace Go.Proofs.Ybulkdebc
/- THE CELL 'sum', in the pinned program and in every row, IS THE sha256 OF THE DUMP (.gsa) THAT YbulkdebcProg.lean LOADS. Nothing in Lean hashes anything: it is a label: what it is worth is what the hold of that sum in a sandbox is worth. -/
noncomputable def Yba.pinned : Pinned := { name := "ybulkdebc", sum := "c743b68261cec7af58d1a6f7473e67145abc3cde5c2415ded3ec1aeb1dfc9fb8", checked := Yba.checked }
namespace Rows
def none {H : Type} : Left H := { results := [], args := [] }

/-- 'pilotfish.LawS5267BExact': WHATEVER THE INPUT: true; the input reads as it did. -/
def lawS5267BExactSpec : ChangeSpec := { name := "lawS5267BExact", fn := fun _ => fun
  | [d1, d2, d3] => { results := [.lit (.bool true)], args := [d1, d2, d3] }
  | _ => none }
def lawS5267BExactRow : OpenClaim := { program := "ybulkdebc", sum := "c743b68261cec7af58d1a6f7473e67145abc3cde5c2415ded3ec1aeb1dfc9fb8", func := "example.com/pilotfish/pilotfish.LawS5267BExact", spec := "lawS5267BExact", inPlace := ["(*internal/sync.Mutex).Lock", "internal/race.Disable", "sync/atomic.CompareAndSwapInt32", "internal/race.Enable", "internal/race.Acquire", "(*internal/sync.Mutex).lockSlow", "internal/sync.runtime_canSpin", "internal/sync.runtime_doSpin", "internal/sync.throw", "internal/sync.runtime_nanotime", "internal/sync.runtime_SemacquireMutex", "sync/atomic.AddInt32", "(*internal/sync.Mutex).Unlock", "internal/race.ReleaseMerge", "(*internal/sync.Mutex).unlockSlow", "internal/sync.fatal", "internal/sync.runtime_Semrelease"], apart := false }
def LawS5267BExactSaid : Prop := lawS5267BExactRow.holds Yba.pinned (OpenSpec.ofChange lawS5267BExactSpec)

/-- ITS FALSE NEIGHBOUR: 'it returns false'. Refute it at one input. -/
def lawS5267BExactWrong : ChangeSpec := { name := "lawS5267BExact", fn := fun _ => fun
  | [d1, d2, d3] => { results := [.lit (.bool false)], args := [d1, d2, d3] }
  | _ => none }
def LawS5267BExactWrongFalsely : Prop := lawS5267BExactRow.holds Yba.pinned (OpenSpec.ofChange lawS5267BExactWrong)

/-- 'pilotfish.LawS5267BKeeps': WHATEVER THE INPUT: true; the input reads as it did. -/
def lawS5267BKeepsSpec : ChangeSpec := { name := "lawS5267BKeeps", fn := fun _ => fun
  | [d1, d2, d3] => { results := [.lit (.bool true)], args := [d1, d2, d3] }
  | _ => none }
def lawS5267BKeepsRow : OpenClaim := { program := "ybulkdebc", sum := "c743b68261cec7af58d1a6f7473e67145abc3cde5c2415ded3ec1aeb1dfc9fb8", func := "example.com/pilotfish/pilotfish.LawS5267BKeeps", spec := "lawS5267BKeeps", inPlace := ["(*internal/sync.Mutex).Lock", "internal/race.Disable", "sync/atomic.CompareAndSwapInt32", "internal/race.Enable", "internal/race.Acquire", "(*internal/sync.Mutex).lockSlow", "internal/sync.runtime_canSpin", "internal/sync.runtime_doSpin", "internal/sync.throw", "internal/sync.runtime_nanotime", "internal/sync.runtime_SemacquireMutex", "sync/atomic.AddInt32", "(*internal/sync.Mutex).Unlock", "internal/race.ReleaseMerge", "(*internal/sync.Mutex).unlockSlow", "internal/sync.fatal", "internal/sync.runtime_Semrelease", "(*internal/sync.Mutex).TryLock"], apart := false }
def LawS5267BKeepsSaid : Prop := lawS5267BKeepsRow.holds Yba.pinned (OpenSpec.ofChange lawS5267BKeepsSpec)

/-- ITS FALSE NEIGHBOUR: 'it returns false'. Refute it at one input. -/
def lawS5267BKeepsWrong : ChangeSpec := { name := "lawS5267BKeeps", fn := fun _ => fun
  | [d1, d2, d3] => { results := [.lit (.bool false)], args := [d1, d2, d3] }
  | _ => none }
def LawS5267BKeepsWrongFalsely : Prop := lawS5267BKeepsRow.holds Yba.pinned (OpenSpec.ofChange lawS5267BKeepsWrong)

/-- 'pilotfish.LawS5267CTellsOnce': WHATEVER THE INPUT: true; the input reads as it did. -/
def lawS5267CTellsOnceSpec : ChangeSpec := { name := "lawS5267CTellsOnce", fn := fun _ => fun
  | [d1, d2] => { results := [.lit (.bool true)], args := [d1, d2] }
  | _ => none }
def lawS5267CTellsOnceRow : OpenClaim := { program := "ybulkdebc", sum := "c743b68261cec7af58d1a6f7473e67145abc3cde5c2415ded3ec1aeb1dfc9fb8", func := "example.com/pilotfish/pilotfish.LawS5267CTellsOnce", spec := "lawS5267CTellsOnce", apart := false }
def LawS5267CTellsOnceSaid : Prop := lawS5267CTellsOnceRow.holds Yba.pinned (OpenSpec.ofChange lawS5267CTellsOnceSpec)

/-- ITS FALSE NEIGHBOUR: 'it returns false'. Refute it at one input. -/
def lawS5267CTellsOnceWrong : ChangeSpec := { name := "lawS5267CTellsOnce", fn := fun _ => fun
  | [d1, d2] => { results := [.lit (.bool false)], args := [d1, d2] }
  | _ => none }
def LawS5267CTellsOnceWrongFalsely : Prop := lawS5267CTellsOnceRow.holds Yba.pinned (OpenSpec.ofChange lawS5267CTellsOnceWrong)

end Rows
end Go.Proofs.Ybulkdebc
