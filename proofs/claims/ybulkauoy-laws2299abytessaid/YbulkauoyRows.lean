/-
  No cell of these rows narrows 'for every input' (looked for: loops, veiled, ifaces, maps, wideKeys, modest, calm, conditions, laid).
  DERIVED. THE GIVEN ROWS OF THIS SEAT. 3 by the template 'for every input the law returns true; each argument reads behind the call as it read before'; 0 by the template 'total and deterministic' (their statements: YbulkauoyTotals.lean).
  GIVEN WITH THE SEED: the statements are not yours to turn. If you find one false, say at which input.
  Laid BY PROGRAM, IN A SANDBOX (cutbox-rows.mjs): the forced cells as the released guide's own fill.sh prints them over the translation fe6e2d2a4005ad62… (all of the seat's roots in one cut). By AI agents, Wed Nov 11 2026. No macro, syntax, notation, axiom, sorry.
-/
import Derived.Test.YbulkauoyChecked
import GoSem.Claim
import GoSem.ClaimJoined
import GoSem.ClaimMapViews
import Derived.JoinedTies
import Derived.KernelRfl
namespace Go.Proofs.Ybulkauoy
/- THE CELL 'sum', in the pinned program and in every row, IS THE sha256 OF THE DUMP (.gsa) THAT YbulkauoyProg.lean LOADS. Nothing in Lean hashes anything: it is a label: what it is worth is what the hold of that sum in a sandbox is worth. -/
noncomputable def Yba.pinned : Pinned := { name := "ybulkauoy", sum := "fe6e2d2a4005ad62fdca3a3ff02a34e477fb6d4a3264b40267190f2ed8a6c6a7", checked := Yba.checked }
namespace Rows
def none {H : Type} : Left H := { results := [], args := [] }

/-- 'object.LawS2299AShape': WHATEVER THE INPUT: true; the input reads as it did. -/
def lawS2299AShapeSpec : ChangeSpec := { name := "lawS2299AShape", fn := fun _ => fun
  | [d1, d2, d3, d4, d5, d6, d7, d8, d9] => { results := [.lit (.bool true)], args := [d1, d2, d3, d4, d5, d6, d7, d8, d9] }
  | _ => none }
def lawS2299AShapeRow : OpenClaim := { program := "ybulkauoy", sum := "fe6e2d2a4005ad62fdca3a3ff02a34e477fb6d4a3264b40267190f2ed8a6c6a7", func := "example.com/marmot/marmot/pkg/object.LawS2299AShape", spec := "lawS2299AShape", apart := false }
def LawS2299AShapeSaid : Prop := lawS2299AShapeRow.holds Yba.pinned (OpenSpec.ofChange lawS2299AShapeSpec)

/-- ITS FALSE NEIGHBOUR: 'it returns false'. Refute it at one input. -/
def lawS2299AShapeWrong : ChangeSpec := { name := "lawS2299AShape", fn := fun _ => fun
  | [d1, d2, d3, d4, d5, d6, d7, d8, d9] => { results := [.lit (.bool false)], args := [d1, d2, d3, d4, d5, d6, d7, d8, d9] }
  | _ => none }
def LawS2299AShapeWrongFalsely : Prop := lawS2299AShapeRow.holds Yba.pinned (OpenSpec.ofChange lawS2299AShapeWrong)

/-- 'object.LawS2299ABytes': WHATEVER THE INPUT: true; the input reads as it did. -/
def lawS2299ABytesSpec : ChangeSpec := { name := "lawS2299ABytes", fn := fun _ => fun
  | [d1, d2, d3, d4, d5, d6, d7, d8, d9] => { results := [.lit (.bool true)], args := [d1, d2, d3, d4, d5, d6, d7, d8, d9] }
  | _ => none }
def lawS2299ABytesRow : OpenClaim := { program := "ybulkauoy", sum := "fe6e2d2a4005ad62fdca3a3ff02a34e477fb6d4a3264b40267190f2ed8a6c6a7", func := "example.com/marmot/marmot/pkg/object.LawS2299ABytes", spec := "lawS2299ABytes", apart := false }
def LawS2299ABytesSaid : Prop := lawS2299ABytesRow.holds Yba.pinned (OpenSpec.ofChange lawS2299ABytesSpec)

/-- ITS FALSE NEIGHBOUR: 'it returns false'. Refute it at one input. -/
def lawS2299ABytesWrong : ChangeSpec := { name := "lawS2299ABytes", fn := fun _ => fun
  | [d1, d2, d3, d4, d5, d6, d7, d8, d9] => { results := [.lit (.bool false)], args := [d1, d2, d3, d4, d5, d6, d7, d8, d9] }
  | _ => none }
def LawS2299ABytesWrongFalsely : Prop := lawS2299ABytesRow.holds Yba.pinned (OpenSpec.ofChange lawS2299ABytesWrong)

/-- 'object.LawS2299AStoredKeepsAll': WHATEVER THE INPUT: true; the input reads as it did. -/
def lawS2299AStoredKeepsAllSpec : ChangeSpec := { name := "lawS2299AStoredKeepsAll", fn := fun _ => fun
  | [d1, d2, d3, d4] => { results := [.lit (.bool true)], args := [d1, d2, d3, d4] }
  | _ => none }
def lawS2299AStoredKeepsAllRow : OpenClaim := { program := "ybulkauoy", sum := "fe6e2d2a4005ad62fdca3a3ff02a34e477fb6d4a3264b40267190f2ed8a6c6a7", func := "example.com/marmot/marmot/pkg/object.LawS2299AStoredKeepsAll", spec := "lawS2299AStoredKeepsAll", apart := false }
def LawS2299AStoredKeepsAllSaid : Prop := lawS2299AStoredKeepsAllRow.holds Yba.pinned (OpenSpec.ofChange lawS2299AStoredKeepsAllSpec)

/-- ITS FALSE NEIGHBOUR: 'it returns false'. Refute it at one input. -/
def lawS2299AStoredKeepsAllWrong : ChangeSpec := { name := "lawS2299AStoredKeepsAll", fn := fun _ => fun
  | [d1, d2, d3, d4] => { results := [.lit (.bool false)], args := [d1, d2, d3, d4] }
  | _ => none }
def LawS2299AStoredKeepsAllWrongFalsely : Prop := lawS2299AStoredKeepsAllRow.holds Yba.pinned (OpenSpec.ofChange lawS2299AStoredKeepsAllWrong)

end Rows
end Go.Proofs.Ybulkauoy
