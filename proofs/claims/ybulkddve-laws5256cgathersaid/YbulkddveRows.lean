/-
  No cell of these rows narrows 'for every input' (looked for: loops, veiled, ifaces, maps, wideKeys, modest, calm, conditions, laid).
  DERIVED. THE GIVEN ROWS OF THIS SEAT. 1 by the template 'for every input the law returns true; each argument reads behind the call as it read before'; 0 by the template 'total and deterministic' (their statements: YbulkddveTotals.lean).
  GIVEN WITH THE SEED: the statements are not yours to turn. If you find one false, say at which input.
  Laid BY PROGRAM, IN A SANDBOX (cutbox-rows.mjs): the forced cells as the released guide's own fill.sh prints them over the translation 17396476d12c9475… (all of the seat's roots in one cut). By AI agents, Wed Nov 11 2026. No macro, syntax, notation, axiom, sorry.
-/
import Derived.Test.YbulkddveChecked
import GoSem.Claim
import GoSem.ClaimJoined
import GoSem.ClaimMapViews
import Derived.JoinedTies
import Derived.KernelRfl
namespace Go.Proofs.Ybulkddve
/- THE CELL 'sum', in the pinned program and in every row, IS THE sha256 OF THE DUMP (.gsa) THAT YbulkddveProg.lean LOADS. Nothing in Lean hashes anything: it is a label: what it is worth is what the hold of that sum in a sandbox is worth. -/
noncomputable def Yba.pinned : Pinned := { name := "ybulkddve", sum := "17396476d12c9475b00acbe4bc3212778f474a01b0155a58051bb7074535baed", checked := Yba.checked }
namespace Rows
def none {H : Type} : Left H := { results := [], args := [] }

/-- 'txn.LawS5256CGather': WHATEVER THE INPUT: true; the input reads as it did. -/
def lawS5256CGatherSpec : ChangeSpec := { name := "lawS5256CGather", fn := fun _ => fun
  | [d] => { results := [.lit (.bool true)], args := [d] }
  | _ => none }
def lawS5256CGatherRow : OpenClaim := { program := "ybulkddve", sum := "17396476d12c9475b00acbe4bc3212778f474a01b0155a58051bb7074535baed", func := "example.com/mortise/mortise/internal/txn.LawS5256CGather", spec := "lawS5256CGather", apart := false }
def LawS5256CGatherSaid : Prop := lawS5256CGatherRow.holds Yba.pinned (OpenSpec.ofChange lawS5256CGatherSpec)

/-- ITS FALSE NEIGHBOUR: 'it returns false'. Refute it at one input. -/
def lawS5256CGatherWrong : ChangeSpec := { name := "lawS5256CGather", fn := fun _ => fun
  | [d] => { results := [.lit (.bool false)], args := [d] }
  | _ => none }
def LawS5256CGatherWrongFalsely : Prop := lawS5256CGatherRow.holds Yba.pinned (OpenSpec.ofChange lawS5256CGatherWrong)

end Rows
end Go.Proofs.Ybulkddve
