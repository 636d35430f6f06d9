/-
  NARROWER THAN 'FOR EVERY INPUT', by the rows' own cells (each row's printed sentence says how): LawS2299BGlobal: laid · LawS2299BLocal: laid · LawS2299CSmall: ifaces, laid · LawS2299CBoundary: ifaces, laid.
  DERIVED. THE GIVEN ROWS OF THIS SEAT. 4 by the template 'for every input the law returns true; each argument reads behind the call as it read before'; 0 by the template 'total and deterministic' (their statements: YbulkauoyFmtTotals.lean).
  GIVEN WITH THE SEED: the statements are not yours to turn. If you find one false, say at which input.
  Laid BY PROGRAM, IN A SANDBOX (cutbox-rows.mjs): the forced cells as the released guide's own fill.sh prints them over the translation fd0fc604ca42038c… (all of the seat's roots in one cut). By AI agents, Wed Nov 11 2026. No macro, syntax, notation, axiom, sorry.
-/
import Derived.Test.YbulkauoyFmtChecked
import GoSem.Claim
import GoSem.ClaimJoined
import GoSem.ClaimMapViews
import Derived.JoinedTies
import Derived.KernelRfl
namespace Go.Proofs.YbulkauoyFmt
/- THE CELL 'sum', in the pinned program and in every row, IS THE sha256 OF THE DUMP (.gsa) THAT YbulkauoyFmtProg.lean LOADS. Nothing in Lean hashes anything: it is a label: what it is worth is what the hold of that sum in a sandbox is worth. -/
noncomputable def Ybaf.pinned : Pinned := { name := "ybulkauoyfmt", sum := "fd0fc604ca42038c625441891eded54bb6b12b7fb31d50e5e000d1328795326b", checked := Ybaf.checked }
namespace Rows
def none {H : Type} : Left H := { results := [], args := [] }

/- WHAT THE LISTED PACKAGE-LEVEL VARIABLES READ AS WHEN THE CALL BEGINS. Each datum BY PROGRAM (the guide's laid-datum.mjs) off the statement by which the dump's own 'gosem.cut.vars' lays the variable. In a bare row this is a premise. The card (YbulkauoyFmtCards.lean) ties it to the program's text. -/
def laid_example_com_marmot_marmot_pkg_vm_bindOps {H : Type} : DataW H := .agg [.lit (.int .u8 8), .lit (.int .u8 10), .lit (.int .u8 0), .lit (.int .u8 6)]
def laid_example_com_marmot_marmot_pkg_vm_opcodes {H : Type} : DataW H := .agg [.agg [.lit (.int .i64 1), .lit (.int .i64 0), .lit (.int .i64 0), .lit (.int .i64 1), .lit (.int .i64 0), .lit (.int .i64 0)], .agg [.lit (.int .i64 0), .lit (.int .i64 0), .lit (.int .i64 0), .lit (.int .i64 1), .lit (.int .i64 0), .lit (.int .i64 0)], .agg [.lit (.int .i64 0), .lit (.int .i64 0), .lit (.int .i64 0), .lit (.int .i64 1), .lit (.int .i64 0), .lit (.int .i64 0)], .agg [.lit (.int .i64 0), .lit (.int .i64 0), .lit (.int .i64 0), .lit (.int .i64 1), .lit (.int .i64 0), .lit (.int .i64 0)], .agg [.lit (.int .i64 0), .lit (.int .i64 1), .lit (.int .i64 0), .lit (.int .i64 0), .lit (.int .i64 0), .lit (.int .i64 0)], .agg [.lit (.int .i64 1), .lit (.int .i64 0), .lit (.int .i64 0), .lit (.int .i64 1), .lit (.int .i64 0), .lit (.int .i64 0)], .agg [.lit (.int .i64 1), .lit (.int .i64 1), .lit (.int .i64 0), .lit (.int .i64 0), .lit (.int .i64 0), .lit (.int .i64 0)], .agg [.lit (.int .i64 1), .lit (.int .i64 0), .lit (.int .i64 0), .lit (.int .i64 1), .lit (.int .i64 0), .lit (.int .i64 0)], .agg [.lit (.int .i64 1), .lit (.int .i64 1), .lit (.int .i64 0), .lit (.int .i64 0), .lit (.int .i64 0), .lit (.int .i64 0)], .agg [.lit (.int .i64 1), .lit (.int .i64 0), .lit (.int .i64 0), .lit (.int .i64 1), .lit (.int .i64 0), .lit (.int .i64 0)], .agg [.lit (.int .i64 1), .lit (.int .i64 1), .lit (.int .i64 0), .lit (.int .i64 0), .lit (.int .i64 0), .lit (.int .i64 0)], .agg [.lit (.int .i64 2), .lit (.int .i64 0), .lit (.int .i64 0), .lit (.int .i64 1), .lit (.int .i64 0), .lit (.int .i64 0)], .agg [.lit (.int .i64 1), .lit (.int .i64 0), .lit (.int .i64 0), .lit (.int .i64 0), .lit (.int .i64 0), .lit (.int .i64 0)], .agg [.lit (.int .i64 1), .lit (.int .i64 1), .lit (.int .i64 0), .lit (.int .i64 0), .lit (.int .i64 0), .lit (.int .i64 0)], .agg [.lit (.int .i64 0), .lit (.int .i64 2), .lit (.int .i64 0), .lit (.int .i64 1), .lit (.int .i64 0), .lit (.int .i64 6)], .agg [.lit (.int .i64 0), .lit (.int .i64 2), .lit (.int .i64 0), .lit (.int .i64 1), .lit (.int .i64 0), .lit (.int .i64 7)], .agg [.lit (.int .i64 0), .lit (.int .i64 2), .lit (.int .i64 0), .lit (.int .i64 1), .lit (.int .i64 0), .lit (.int .i64 8)], .agg [.lit (.int .i64 0), .lit (.int .i64 2), .lit (.int .i64 0), .lit (.int .i64 1), .lit (.int .i64 0), .lit (.int .i64 9)], .agg [.lit (.int .i64 0), .lit (.int .i64 2), .lit (.int .i64 0), .lit (.int .i64 1), .lit (.int .i64 0), .lit (.int .i64 11)], .agg [.lit (.int .i64 0), .lit (.int .i64 2), .lit (.int .i64 0), .lit (.int .i64 1), .lit (.int .i64 0), .lit (.int .i64 12)], .agg [.lit (.int .i64 0), .lit (.int .i64 2), .lit (.int .i64 0), .lit (.int .i64 1), .lit (.int .i64 0), .lit (.int .i64 13)], .agg [.lit (.int .i64 0), .lit (.int .i64 2), .lit (.int .i64 0), .lit (.int .i64 1), .lit (.int .i64 0), .lit (.int .i64 14)], .agg [.lit (.int .i64 0), .lit (.int .i64 1), .lit (.int .i64 0), .lit (.int .i64 1), .lit (.int .i64 0), .lit (.int .i64 7)], .agg [.lit (.int .i64 0), .lit (.int .i64 1), .lit (.int .i64 0), .lit (.int .i64 1), .lit (.int .i64 0), .lit (.int .i64 10)], .agg [.lit (.int .i64 1), .lit (.int .i64 0), .lit (.int .i64 1), .lit (.int .i64 1), .lit (.int .i64 0), .lit (.int .i64 0)], .agg [.lit (.int .i64 0), .lit (.int .i64 1), .lit (.int .i64 0), .lit (.int .i64 1), .lit (.int .i64 0), .lit (.int .i64 0)], .agg [.lit (.int .i64 1), .lit (.int .i64 0), .lit (.int .i64 2), .lit (.int .i64 1), .lit (.int .i64 0), .lit (.int .i64 0)], .agg [.lit (.int .i64 0), .lit (.int .i64 2), .lit (.int .i64 0), .lit (.int .i64 1), .lit (.int .i64 0), .lit (.int .i64 0)], .agg [.lit (.int .i64 1), .lit (.int .i64 1), .lit (.int .i64 0), .lit (.int .i64 1), .lit (.int .i64 0), .lit (.int .i64 22)], .agg [.lit (.int .i64 1), .lit (.int .i64 1), .lit (.int .i64 0), .lit (.int .i64 1), .lit (.int .i64 0), .lit (.int .i64 23)], .agg [.lit (.int .i64 1), .lit (.int .i64 0), .lit (.int .i64 0), .lit (.int .i64 0), .lit (.int .i64 1), .lit (.int .i64 0)], .agg [.lit (.int .i64 0), .lit (.int .i64 3), .lit (.int .i64 0), .lit (.int .i64 0), .lit (.int .i64 0), .lit (.int .i64 0)], .agg [.lit (.int .i64 1), .lit (.int .i64 2), .lit (.int .i64 0), .lit (.int .i64 0), .lit (.int .i64 0), .lit (.int .i64 0)], .agg [.lit (.int .i64 1), .lit (.int .i64 0), .lit (.int .i64 0), .lit (.int .i64 1), .lit (.int .i64 0), .lit (.int .i64 0)], .agg [.lit (.int .i64 2), .lit (.int .i64 1), .lit (.int .i64 1), .lit (.int .i64 1), .lit (.int .i64 0), .lit (.int .i64 0)], .agg [.lit (.int .i64 0), .lit (.int .i64 1), .lit (.int .i64 0), .lit (.int .i64 0), .lit (.int .i64 0), .lit (.int .i64 0)]]
def laid_example_com_marmot_marmot_pkg_object_ErrTooLarge {H : Type} : DataW H := .iface "*errors.errorString" (.ptr (.agg [.lit (.string [118, 97, 108, 117, 101, 32, 116, 111, 111, 32, 108, 97, 114, 103, 101])]))

/-- 'vm.LawS2299BGlobal': WHATEVER THE INPUT: true; the input reads as it did. -/
def lawS2299BGlobalSpec : ChangeSpec := { name := "lawS2299BGlobal", vars := ["example.com/marmot/marmot/pkg/vm.bindOps", "example.com/marmot/marmot/pkg/vm.opcodes"], fn := fun _ => fun
  | [d1, d2, d3, g1, g2] => { results := [.lit (.bool true)], args := [d1, d2, d3], vars := [g1, g2] }
  | _ => none }
def lawS2299BGlobalRow : OpenClaim := { program := "ybulkauoyfmt", sum := "fd0fc604ca42038c625441891eded54bb6b12b7fb31d50e5e000d1328795326b", func := "example.com/marmot/marmot/pkg/vm.LawS2299BGlobal", spec := "lawS2299BGlobal", stops := ["fmt.Sprintf", "fmt.errorf"], inPlace := ["fmt.Sprintf"], named := ["example.com/marmot/marmot/pkg/vm.bindOps", "example.com/marmot/marmot/pkg/vm.opcodes"], apart := false, laid := [("example.com/marmot/marmot/pkg/vm.bindOps", laid_example_com_marmot_marmot_pkg_vm_bindOps), ("example.com/marmot/marmot/pkg/vm.opcodes", laid_example_com_marmot_marmot_pkg_vm_opcodes)] }
/-- NO THEOREM (fmt's text is open here; it may be false): for the released tool's asking of the row's closed facts alone. THE STATEMENT IS 'LawS2299BGlobalToldSaid' (YbulkauoyFmtCards.lean). -/
def LawS2299BGlobalFormAsk : Prop := lawS2299BGlobalRow.holds Ybaf.pinned (OpenSpec.ofChange lawS2299BGlobalSpec)

/-- ITS FALSE NEIGHBOUR: 'it returns false'. Refute it at one input. -/
def lawS2299BGlobalWrong : ChangeSpec := { name := "lawS2299BGlobal", vars := ["example.com/marmot/marmot/pkg/vm.bindOps", "example.com/marmot/marmot/pkg/vm.opcodes"], fn := fun _ => fun
  | [d1, d2, d3, g1, g2] => { results := [.lit (.bool false)], args := [d1, d2, d3], vars := [g1, g2] }
  | _ => none }
def LawS2299BGlobalWrongFormAsk : Prop := lawS2299BGlobalRow.holds Ybaf.pinned (OpenSpec.ofChange lawS2299BGlobalWrong)

/-- 'vm.LawS2299BLocal': WHATEVER THE INPUT: true; the input reads as it did. -/
def lawS2299BLocalSpec : ChangeSpec := { name := "lawS2299BLocal", vars := ["example.com/marmot/marmot/pkg/vm.bindOps", "example.com/marmot/marmot/pkg/vm.opcodes"], fn := fun _ => fun
  | [d1, d2, d3, d4, d5, d6, g1, g2] => { results := [.lit (.bool true)], args := [d1, d2, d3, d4, d5, d6], vars := [g1, g2] }
  | _ => none }
def lawS2299BLocalRow : OpenClaim := { program := "ybulkauoyfmt", sum := "fd0fc604ca42038c625441891eded54bb6b12b7fb31d50e5e000d1328795326b", func := "example.com/marmot/marmot/pkg/vm.LawS2299BLocal", spec := "lawS2299BLocal", stops := ["fmt.Sprintf", "fmt.errorf"], inPlace := ["fmt.Sprintf"], named := ["example.com/marmot/marmot/pkg/vm.bindOps", "example.com/marmot/marmot/pkg/vm.opcodes"], apart := false, laid := [("example.com/marmot/marmot/pkg/vm.bindOps", laid_example_com_marmot_marmot_pkg_vm_bindOps), ("example.com/marmot/marmot/pkg/vm.opcodes", laid_example_com_marmot_marmot_pkg_vm_opcodes)] }
/-- NO THEOREM (fmt's text is open here; it may be false): for the released tool's asking of the row's closed facts alone. THE STATEMENT IS 'LawS2299BLocalToldSaid' (YbulkauoyFmtCards.lean). -/
def LawS2299BLocalFormAsk : Prop := lawS2299BLocalRow.holds Ybaf.pinned (OpenSpec.ofChange lawS2299BLocalSpec)

/-- ITS FALSE NEIGHBOUR: 'it returns false'. Refute it at one input. -/
def lawS2299BLocalWrong : ChangeSpec := { name := "lawS2299BLocal", vars := ["example.com/marmot/marmot/pkg/vm.bindOps", "example.com/marmot/marmot/pkg/vm.opcodes"], fn := fun _ => fun
  | [d1, d2, d3, d4, d5, d6, g1, g2] => { results := [.lit (.bool false)], args := [d1, d2, d3, d4, d5, d6], vars := [g1, g2] }
  | _ => none }
def LawS2299BLocalWrongFormAsk : Prop := lawS2299BLocalRow.holds Ybaf.pinned (OpenSpec.ofChange lawS2299BLocalWrong)

/-- 'object.LawS2299CSmall': WHATEVER THE INPUT: true; the input reads as it did. -/
def lawS2299CSmallSpec : ChangeSpec := { name := "lawS2299CSmall", vars := ["example.com/marmot/marmot/pkg/object.ErrTooLarge"], fn := fun _ => fun
  | [d1, d2, d3, d4, d5, g1] => { results := [.lit (.bool true)], args := [d1, d2, d3, d4, d5], vars := [g1] }
  | _ => none }
def lawS2299CSmallRow : OpenClaim := { program := "ybulkauoyfmt", sum := "fd0fc604ca42038c625441891eded54bb6b12b7fb31d50e5e000d1328795326b", func := "example.com/marmot/marmot/pkg/object.LawS2299CSmall", spec := "lawS2299CSmall", stops := ["fmt.Sprintf", "fmt.errorf"], inPlace := ["fmt.errorf"], unfollowed := true, recurses := true, named := ["example.com/marmot/marmot/pkg/object.ErrTooLarge"], ifaces := true, apart := false, laid := [("example.com/marmot/marmot/pkg/object.ErrTooLarge", laid_example_com_marmot_marmot_pkg_object_ErrTooLarge)] }
/-- NO THEOREM (fmt's text is open here; it may be false): for the released tool's asking of the row's closed facts alone. THE STATEMENT IS 'LawS2299CSmallToldSaid' (YbulkauoyFmtCards.lean). -/
def LawS2299CSmallFormAsk : Prop := lawS2299CSmallRow.holds Ybaf.pinned (OpenSpec.ofChange lawS2299CSmallSpec)

/-- ITS FALSE NEIGHBOUR: 'it returns false'. Refute it at one input. -/
def lawS2299CSmallWrong : ChangeSpec := { name := "lawS2299CSmall", vars := ["example.com/marmot/marmot/pkg/object.ErrTooLarge"], fn := fun _ => fun
  | [d1, d2, d3, d4, d5, g1] => { results := [.lit (.bool false)], args := [d1, d2, d3, d4, d5], vars := [g1] }
  | _ => none }
def LawS2299CSmallWrongFormAsk : Prop := lawS2299CSmallRow.holds Ybaf.pinned (OpenSpec.ofChange lawS2299CSmallWrong)

/-- 'object.LawS2299CBoundary': WHATEVER THE INPUT: true; the input reads as it did. -/
def lawS2299CBoundarySpec : ChangeSpec := { name := "lawS2299CBoundary", vars := ["example.com/marmot/marmot/pkg/object.ErrTooLarge"], fn := fun _ => fun
  | [d, g1] => { results := [.lit (.bool true)], args := [d], vars := [g1] }
  | _ => none }
def lawS2299CBoundaryRow : OpenClaim := { program := "ybulkauoyfmt", sum := "fd0fc604ca42038c625441891eded54bb6b12b7fb31d50e5e000d1328795326b", func := "example.com/marmot/marmot/pkg/object.LawS2299CBoundary", spec := "lawS2299CBoundary", stops := ["fmt.Sprintf", "fmt.errorf"], inPlace := ["fmt.errorf", "internal/reflectlite.TypeOf"], unfollowed := true, recurses := true, named := ["example.com/marmot/marmot/pkg/object.ErrTooLarge"], ifaces := true, apart := false, laid := [("example.com/marmot/marmot/pkg/object.ErrTooLarge", laid_example_com_marmot_marmot_pkg_object_ErrTooLarge)] }
/-- NO THEOREM (fmt's text is open here; it may be false): for the released tool's asking of the row's closed facts alone. THE STATEMENT IS 'LawS2299CBoundaryToldSaid' (YbulkauoyFmtCards.lean). -/
def LawS2299CBoundaryFormAsk : Prop := lawS2299CBoundaryRow.holds Ybaf.pinned (OpenSpec.ofChange lawS2299CBoundarySpec)

/-- ITS FALSE NEIGHBOUR: 'it returns false'. Refute it at one input. -/
def lawS2299CBoundaryWrong : ChangeSpec := { name := "lawS2299CBoundary", vars := ["example.com/marmot/marmot/pkg/object.ErrTooLarge"], fn := fun _ => fun
  | [d, g1] => { results := [.lit (.bool false)], args := [d], vars := [g1] }
  | _ => none }
def LawS2299CBoundaryWrongFormAsk : Prop := lawS2299CBoundaryRow.holds Ybaf.pinned (OpenSpec.ofChange lawS2299CBoundaryWrong)

end Rows
end Go.Proofs.YbulkauoyFmt
