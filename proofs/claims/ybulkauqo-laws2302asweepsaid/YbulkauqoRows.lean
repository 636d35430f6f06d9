/-
  No cell of these rows narrows 'for every input' (looked for: loops, veiled, ifaces, maps, wideKeys, modest, calm, conditions, laid).
  DERIVED. THE GIVEN ROWS OF THIS SEAT. 2 by the template 'for every input the law returns true; each argument reads behind the call as it read before'; 0 by the template 'total and deterministic' (their statements: YbulkauqoTotals.lean).
  GIVEN WITH THE SEED: the statements are not yours to turn. If you find one false, say at which input.
  Laid BY PROGRAM, IN A SANDBOX (cutbox-rows.mjs): the forced cells as the released guide's own fill.sh prints them over the translation f9243465fdf27e81… (all of the seat's roots in one cut). By AI agents, Wed Nov 11 2026. No macro, syntax, notation, axiom, sorry.
-/
import Derived.Test.YbulkauqoChecked
import GoSem.Claim
import GoSem.ClaimJoined
import GoSem.ClaimMapViews
import Derived.JoinedTies
import Derived.KernelRfl
namespace Go.Proofs.Ybulkauqo
/- THE CELL 'sum', in the pinned program and in every row, IS THE sha256 OF THE DUMP (.gsa) THAT YbulkauqoProg.lean LOADS. Nothing in Lean hashes anything: it is a label: what it is worth is what the hold of that sum in a sandbox is worth. -/
noncomputable def Yba.pinned : Pinned := { name := "ybulkauqo", sum := "f9243465fdf27e81ccf22b67f7c8215841a8c9321f78fac8e92a4ff332614e63", checked := Yba.checked }
namespace Rows
def none {H : Type} : Left H := { results := [], args := [] }

/-- 'model.LawS2302ATable': WHATEVER THE INPUT: true; the input reads as it did. -/
def lawS2302ATableSpec : ChangeSpec := { name := "lawS2302ATable", fn := fun _ => fun
  | [d] => { results := [.lit (.bool true)], args := [d] }
  | _ => none }
def lawS2302ATableRow : OpenClaim := { program := "ybulkauqo", sum := "f9243465fdf27e81ccf22b67f7c8215841a8c9321f78fac8e92a4ff332614e63", func := "example.com/driftlog/driftlog/model.LawS2302ATable", spec := "lawS2302ATable", apart := false }
def LawS2302ATableSaid : Prop := lawS2302ATableRow.holds Yba.pinned (OpenSpec.ofChange lawS2302ATableSpec)

/-- ITS FALSE NEIGHBOUR: 'it returns false'. Refute it at one input. -/
def lawS2302ATableWrong : ChangeSpec := { name := "lawS2302ATable", fn := fun _ => fun
  | [d] => { results := [.lit (.bool false)], args := [d] }
  | _ => none }
def LawS2302ATableWrongFalsely : Prop := lawS2302ATableRow.holds Yba.pinned (OpenSpec.ofChange lawS2302ATableWrong)

/-- 'model.LawS2302ASweep': WHATEVER THE INPUT: true; the input reads as it did. -/
def lawS2302ASweepSpec : ChangeSpec := { name := "lawS2302ASweep", fn := fun _ => fun
  | [d] => { results := [.lit (.bool true)], args := [d] }
  | _ => none }
def lawS2302ASweepRow : OpenClaim := { program := "ybulkauqo", sum := "f9243465fdf27e81ccf22b67f7c8215841a8c9321f78fac8e92a4ff332614e63", func := "example.com/driftlog/driftlog/model.LawS2302ASweep", spec := "lawS2302ASweep", apart := false }
def LawS2302ASweepSaid : Prop := lawS2302ASweepRow.holds Yba.pinned (OpenSpec.ofChange lawS2302ASweepSpec)

/-- ITS FALSE NEIGHBOUR: 'it returns false'. Refute it at one input. -/
def lawS2302ASweepWrong : ChangeSpec := { name := "lawS2302ASweep", fn := fun _ => fun
  | [d] => { results := [.lit (.bool false)], args := [d] }
  | _ => none }
def LawS2302ASweepWrongFalsely : Prop := lawS2302ASweepRow.holds Yba.pinned (OpenSpec.ofChange lawS2302ASweepWrong)

end Rows
end Go.Proofs.Ybulkauqo
