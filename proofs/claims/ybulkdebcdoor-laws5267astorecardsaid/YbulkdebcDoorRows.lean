/-
  NARROWER THAN 'FOR EVERY INPUT', by the rows' own cells (each row's printed sentence says how): LawS5267AStore: laid.
  DERIVED. THE GIVEN ROWS OF THIS SEAT. 1 by the template 'for every input the law returns true; each argument reads behind the call as it read before'; 0 by the template 'total and deterministic' (their statements: YbulkdebcDoorTotals.lean).
  GIVEN WITH THE SEED: the statements are not yours to turn. If you find one false, say at which input.
  Laid BY PROGRAM, IN A SANDBOX (cutbox-rows.mjs): the forced cells as the released guide's own fill.sh prints them over the translation 1bdd1f4ea5a16ca1… (all of the seat's roots in one cut). By AI agents, Wed Nov 11 2026. No macro, syntax, notation, axiom, sorry.
-/
import Derived.Test.YbulkdebcDoorChecked
import GoSem.Claim
import GoSem.ClaimJoined
import GoSem.ClaimMapViews
import Derived.JoinedTies
import Derived.KernelRfl
namespace Go.Proofs.YbulkdebcDoor
/- THE CELL 'sum', in the pinned program and in every row, IS THE sha256 OF THE DUMP (.gsa) THAT YbulkdebcDoorProg.lean LOADS. Nothing in Lean hashes anything: it is a label: what it is worth is what the hold of that sum in a sandbox is worth. -/
noncomputable def Ybad.pinned : Pinned := { name := "ybulkdebcdoor", sum := "1bdd1f4ea5a16ca19256c964ba0da3bd37ae4664e5dfe33c8945f4cd72a322d7", checked := Ybad.checked }
namespace Rows
def none {H : Type} : Left H := { results := [], args := [] }

/- WHAT THE LISTED PACKAGE-LEVEL VARIABLES READ AS WHEN THE CALL BEGINS. Each datum BY PROGRAM (the guide's laid-datum.mjs) off the statement by which the dump's own 'gosem.cut.vars' lays the variable. In a bare row this is a premise. The card (YbulkdebcDoorCards.lean) ties it to the program's text. -/
def laid_net_http_ErrHijacked {H : Type} : DataW H := .iface "*errors.errorString" (.ptr (.agg [.lit (.string [104, 116, 116, 112, 58, 32, 99, 111, 110, 110, 101, 99, 116, 105, 111, 110, 32, 104, 97, 115, 32, 98, 101, 101, 110, 32, 104, 105, 106, 97, 99, 107, 101, 100])]))

/-- 'pilotfish.LawS5267AStore': WHATEVER THE INPUT: true; the input reads as it did. -/
def lawS5267AStoreSpec : ChangeSpec := { name := "lawS5267AStore", fn := fun _ => fun
  | [d1, d2, d3, d4, d5, d6] => { results := [.lit (.bool true)], args := [d1, d2, d3, d4, d5, d6] }
  | _ => none }
def lawS5267AStoreRow : OpenClaim := { program := "ybulkdebcdoor", sum := "1bdd1f4ea5a16ca19256c964ba0da3bd37ae4664e5dfe33c8945f4cd72a322d7", func := "example.com/pilotfish/pilotfish.LawS5267AStore", spec := "lawS5267AStore", inPlace := ["(*internal/sync.Mutex).Lock", "internal/race.Disable", "sync/atomic.CompareAndSwapInt32", "internal/race.Enable", "internal/race.Acquire", "(*internal/sync.Mutex).lockSlow", "internal/sync.runtime_canSpin", "internal/sync.runtime_doSpin", "internal/sync.throw", "internal/sync.runtime_nanotime", "internal/sync.runtime_SemacquireMutex", "sync/atomic.AddInt32", "(*internal/sync.Mutex).Unlock", "internal/race.ReleaseMerge", "(*internal/sync.Mutex).unlockSlow", "internal/sync.fatal", "internal/sync.runtime_Semrelease", "(*internal/sync.Mutex).TryLock"], named := ["net/http.ErrHijacked"], apart := false, laid := [("net/http.ErrHijacked", laid_net_http_ErrHijacked)] }
def LawS5267AStoreSaid : Prop := lawS5267AStoreRow.holds Ybad.pinned (OpenSpec.ofChange lawS5267AStoreSpec)

/-- ITS FALSE NEIGHBOUR: 'it returns false'. Refute it at one input. -/
def lawS5267AStoreWrong : ChangeSpec := { name := "lawS5267AStore", fn := fun _ => fun
  | [d1, d2, d3, d4, d5, d6] => { results := [.lit (.bool false)], args := [d1, d2, d3, d4, d5, d6] }
  | _ => none }
def LawS5267AStoreWrongFalsely : Prop := lawS5267AStoreRow.holds Ybad.pinned (OpenSpec.ofChange lawS5267AStoreWrong)

end Rows
end Go.Proofs.YbulkdebcDoor
