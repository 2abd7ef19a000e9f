/-
  No cell of these rows narrows 'for every input' (looked for: loops, veiled, ifaces, maps, wideKeys, modest, calm, conditions, laid).
  DERIVED. THE GIVEN ROWS OF THIS SEAT. 2 by the template 'for every input the law returns true; each argument reads behind the call as it read before'; 0 by the template 'total and deterministic' (their statements: YbulkdeaoTotals.lean).
  GIVEN WITH THE SEED: the statements are not yours to turn. If you find one false, say at which input.
  Laid BY PROGRAM, IN A SANDBOX (cutbox-rows.mjs): the forced cells as the released guide's own fill.sh prints them over the translation bee794da6bdb9d6d… (all of the seat's roots in one cut). By AI agents, Wed Nov 11 2026. No macro, syntax, notation, axiom, sorry.
-/
import Derived.Test.YbulkdeaoChecked
import GoSem.Claim
import GoSem.ClaimJoined
import GoSem.ClaimMapViews
import Derived.JoinedTies
import Derived.KernelRfl
namespace Go.Proofs.Ybulkdeao
/- THE CELL 'sum', in the pinned program and in every row, IS THE sha256 OF THE DUMP (.gsa) THAT YbulkdeaoProg.lean LOADS. Nothing in Lean hashes anything: it is a label: what it is worth is what the hold of that sum in a sandbox is worth. -/
noncomputable def Yba.pinned : Pinned := { name := "ybulkdeao", sum := "bee794da6bdb9d6df192e8a3a6e06b83c0e892dea6b06d9b3da8ad74b6c3eec1", checked := Yba.checked }
namespace Rows
def none {H : Type} : Left H := { results := [], args := [] }

/-- 'tamis.LawS5266BTable': WHATEVER THE INPUT: true; the input reads as it did. -/
def lawS5266BTableSpec : ChangeSpec := { name := "lawS5266BTable", fn := fun _ => fun
  | [d1, d2] => { results := [.lit (.bool true)], args := [d1, d2] }
  | _ => none }
def lawS5266BTableRow : OpenClaim := { program := "ybulkdeao", sum := "bee794da6bdb9d6df192e8a3a6e06b83c0e892dea6b06d9b3da8ad74b6c3eec1", func := "example.com/tamis/tamis.LawS5266BTable", spec := "lawS5266BTable", apart := false }
def LawS5266BTableSaid : Prop := lawS5266BTableRow.holds Yba.pinned (OpenSpec.ofChange lawS5266BTableSpec)

/-- ITS FALSE NEIGHBOUR: 'it returns false'. Refute it at one input. -/
def lawS5266BTableWrong : ChangeSpec := { name := "lawS5266BTable", fn := fun _ => fun
  | [d1, d2] => { results := [.lit (.bool false)], args := [d1, d2] }
  | _ => none }
def LawS5266BTableWrongFalsely : Prop := lawS5266BTableRow.holds Yba.pinned (OpenSpec.ofChange lawS5266BTableWrong)

/-- 'tamis.LawS5266BFloat': WHATEVER THE INPUT: true; the input reads as it did. -/
def lawS5266BFloatSpec : ChangeSpec := { name := "lawS5266BFloat", fn := fun _ => fun
  | [d1, d2, d3] => { results := [.lit (.bool true)], args := [d1, d2, d3] }
  | _ => none }
def lawS5266BFloatRow : OpenClaim := { program := "ybulkdeao", sum := "bee794da6bdb9d6df192e8a3a6e06b83c0e892dea6b06d9b3da8ad74b6c3eec1", func := "example.com/tamis/tamis.LawS5266BFloat", spec := "lawS5266BFloat", apart := false }
def LawS5266BFloatSaid : Prop := lawS5266BFloatRow.holds Yba.pinned (OpenSpec.ofChange lawS5266BFloatSpec)

/-- ITS FALSE NEIGHBOUR: 'it returns false'. Refute it at one input. -/
def lawS5266BFloatWrong : ChangeSpec := { name := "lawS5266BFloat", fn := fun _ => fun
  | [d1, d2, d3] => { results := [.lit (.bool false)], args := [d1, d2, d3] }
  | _ => none }
def LawS5266BFloatWrongFalsely : Prop := lawS5266BFloatRow.holds Yba.pinned (OpenSpec.ofChange lawS5266BFloatWrong)

end Rows
end Go.Proofs.Ybulkdeao
