/-
  DERIVED. GIVEN WITH THE SEED: THE CARDS: each row of YbulkauoyFmtRows.lean that lists a variable, with what it lists TIED to the program's text (the seventh form; the later family's looks); each row that meets fmt, with fmt's text TOLD by the authors' own Lean function (tested against real Go, not proved from fmt's source: count such statements apart). THE CARD IS WHAT COUNTS. Prove the row's statement (the work); the ties are given (YbulkauoyFmtTie.lean); close each card by the builder's one call (the guide's Derived/Test/ToyasCard.lean, 'card_holds'). Laid BY PROGRAM, IN A SANDBOX (cutbox-door.mjs). By AI agents, Wed Nov 11 2026. No macro, syntax, notation, axiom, sorry.
-/
import Derived.Test.YbulkauoyFmtRows
import GoSem.ClaimSeven
namespace Go.Proofs.YbulkauoyFmt
namespace Rows

/-- THE TOLD AND TIED CARD OF 'vm.LawS2299BGlobal'. -/
def lawS2299BGlobalCard : Claim7 := { stood := { row := lawS2299BGlobalRow, standIns := [], harness := (true, "1b2c46bec05d24ae655a66c3924127d75ab5be3b610ce17f43a81ea4a0e545f5"), looks := true }, told := true, laidByText := true, laidKinds := [.data, .data], laidTests := true, laidLooks := .later, goes := false }
def LawS2299BGlobalToldSaid : Prop := Claim7.holds Ybaf.pinned (.plain (OpenSpec.ofChange lawS2299BGlobalSpec)) lawS2299BGlobalCard
/-- ITS FALSE NEIGHBOUR. Refute it at one input. -/
def LawS2299BGlobalToldWrongFalsely : Prop := Claim7.holds Ybaf.pinned (.plain (OpenSpec.ofChange lawS2299BGlobalWrong)) lawS2299BGlobalCard

/-- THE TOLD AND TIED CARD OF 'vm.LawS2299BLocal'. -/
def lawS2299BLocalCard : Claim7 := { stood := { row := lawS2299BLocalRow, standIns := [], harness := (true, "1b2c46bec05d24ae655a66c3924127d75ab5be3b610ce17f43a81ea4a0e545f5"), looks := true }, told := true, laidByText := true, laidKinds := [.data, .data], laidTests := true, laidLooks := .later, goes := false }
def LawS2299BLocalToldSaid : Prop := Claim7.holds Ybaf.pinned (.plain (OpenSpec.ofChange lawS2299BLocalSpec)) lawS2299BLocalCard
/-- ITS FALSE NEIGHBOUR. Refute it at one input. -/
def LawS2299BLocalToldWrongFalsely : Prop := Claim7.holds Ybaf.pinned (.plain (OpenSpec.ofChange lawS2299BLocalWrong)) lawS2299BLocalCard

/-- THE TOLD AND TIED CARD OF 'object.LawS2299CSmall'. -/
def lawS2299CSmallCard : Claim7 := { stood := { row := lawS2299CSmallRow, standIns := [], harness := (true, "1b2c46bec05d24ae655a66c3924127d75ab5be3b610ce17f43a81ea4a0e545f5"), looks := true }, told := true, laidByText := true, laidKinds := [.sentinel], laidTests := true, laidLooks := .later, goes := false }
def LawS2299CSmallToldSaid : Prop := Claim7.holds Ybaf.pinned (.plain (OpenSpec.ofChange lawS2299CSmallSpec)) lawS2299CSmallCard
/-- ITS FALSE NEIGHBOUR. Refute it at one input. -/
def LawS2299CSmallToldWrongFalsely : Prop := Claim7.holds Ybaf.pinned (.plain (OpenSpec.ofChange lawS2299CSmallWrong)) lawS2299CSmallCard

/-- THE TOLD AND TIED CARD OF 'object.LawS2299CBoundary'. -/
def lawS2299CBoundaryCard : Claim7 := { stood := { row := lawS2299CBoundaryRow, standIns := [], harness := (true, "1b2c46bec05d24ae655a66c3924127d75ab5be3b610ce17f43a81ea4a0e545f5"), looks := true }, told := true, laidByText := true, laidKinds := [.sentinel], laidTests := true, laidLooks := .later, goes := false }
def LawS2299CBoundaryToldSaid : Prop := Claim7.holds Ybaf.pinned (.plain (OpenSpec.ofChange lawS2299CBoundarySpec)) lawS2299CBoundaryCard
/-- ITS FALSE NEIGHBOUR. Refute it at one input. -/
def LawS2299CBoundaryToldWrongFalsely : Prop := Claim7.holds Ybaf.pinned (.plain (OpenSpec.ofChange lawS2299CBoundaryWrong)) lawS2299CBoundaryCard
end Rows
end Go.Proofs.YbulkauoyFmt
