/-
  A proof of 'Rows.LawS2299CBoundaryToldSaid': the told and tied card of object.LawS2299CBoundary. The walk: YbulkauoyFmtBoundary; errors.Is over a wrapped sentinel: YbulkauoyFmtIs; fmt.Errorf's one call: YbulkauoyFmtTooLarge. The text that fmt gives is not looked at: the proof holds whatever it is.
-/
import Derived.Test.YbulkauoyFmtBoundary
import Derived.Test.YbulkauoyFmtTie
import Derived.Test.YbulkauoyFmtCards
import Derived.ProofKit
import Derived.Stop.LaidErr
import Derived.WalkSmall
import Derived.OpenShut
import Derived.ShutString
import Derived.OpenVars
import Derived.Stop.JoinedTold
import Derived.Stop.JoinedAt
import Derived.Deep.DeepWitnessRef
import Derived.LaidMore
import Derived.SevenTiedAt
namespace Go.Proofs.YbulkauoyFmt.lawS2299CBoundary
open Go.ChangeShapes Go.WideShapes Go.ChangeAt Go.RowKit Go.Kit
open Go.ChangeMaps (open_string shut_string)
open Go.Extern.Stop Go.Stop Go.Extern

theorem own : ownKnob Ybaf.prog.godebug = none := by kernel_rfl
theorem laidOut : laidOutB Ybaf.pinned.checked.prog = true := by kernel_rfl
theorem stops : Ybaf.pinned.checked.prog.stops = ["fmt.Sprintf", "fmt.errorf"] := by kernel_rfl
theorem stopKnobs : Ybaf.pinned.checked.prog.stopKnobs = [] := by kernel_rfl
theorem quiet (os : Os) : Stop.quiet Ybaf.pinned.checked.prog os := by
  intro k hk
  rw [stopKnobs] at hk
  cases hk

/-- The door's own heap meets the condition: three closed facts. -/
theorem door_met (os : Os) (args : Array Value) : laidMetH Ybaf.prog Rows.lawS2299CBoundaryRow.laid ((World.doorLaid Ybaf.prog 74 os).forCall (fun _ _ => 0) ⟨#[], args, []⟩).memory :=
  laidMetH_of_parts3 (fuel := 8) (laidMet_of_run' 8 (by kernel_rfl) (by kernel_rfl)) (by kernel_rfl) (by kernel_rfl)

def nErr : String := Rows.lawS2299CBoundarySpec.vars.headD ""
theorem gErr : Ybaf.prog.globalNamed nErr = some 0 := by kernel_rfl
theorem gErrType : (Ybaf.prog.globals[0]?).map (·.type) = some 89 := by kernel_rfl
theorem cells135 : Ybaf.prog.cellsOf 135 = 1 := by kernel_rfl
theorem cells9 : Ybaf.prog.cellsOf 9 = 1 := by kernel_rfl
theorem star : "*" ++ "errors.errorString" = "*errors.errorString" := by decide
theorem row133 (u : TypeId) (h : Ybaf.prog.typeName? 3 u = some "*errors.errorString") : u = 133 :=
  typeName_ptr_named (nm := "errors.errorString") (by rw [star]; kernel_rfl) (by kernel_rfl) (by decide) u (by rw [star]; exact h)

set_option maxRecDepth 100000 in
theorem lifted (os : Os) (started : os.Started) (H : Type) (enc : TypeId × Value → H) :
    ReturnsInTold none {} Ybaf.checked os 6 .any Input.okWide ((OpenSpec.ofChange Rows.lawS2299CBoundarySpec).preRow enc Ybaf.prog Ybaf.f6 [] false Rows.lawS2299CBoundaryRow.laid)
      (fun F => ((OpenSpec.ofChange Rows.lawS2299CBoundarySpec).at F).post enc Ybaf.prog Ybaf.f6 false true false false) (aloneAtReturn Ybaf.prog) nothingAlways := by
  refine returnsInTold_of_row (C := Ybaf.checked) (s := OpenSpec.ofChange Rows.lawS2299CBoundarySpec) (by kernel_rfl) own started (by kernel_rfl) Ybaf.func6
    (OpenSpec.witness_stopped_atRef (enc := enc) (C := Ybaf.checked) false (World.doorLaid Ybaf.prog 74 os) #[.int .u8 0] rfl (by kernel_rfl) (by kernel_rfl) (by kernel_rfl)
      (OpenSpec.preRow_of_B rfl 8 (by kernel_rfl) (by kernel_rfl) (door_met os _))) ?_
  intro F W base args ds gs before _ hF hval0 hW _ _ _ hL _
  have hval : ∀ (j : Nat) t v, Ybaf.f6.params[j]? = some t → args[j]? = some v → Value.okWide Ybaf.prog W .any base t v := hval0
  have hW' := hW
  obtain ⟨p, q, hA0, hV0, rfl, hfz, hnd⟩ := hW
  have hA : DataW.TrodAll enc Ybaf.prog W 0 (fun _ => true) true Ybaf.f6.params.toList args.toList ds p := hA0
  have hV : DataW.TrodVars enc Ybaf.prog W (fun _ => true) [nErr] gs q := hV0
  rw [Ybaf.params6] at hA hval
  obtain ⟨v0, d0, rfl, rfl, h0⟩ := trodAll_one hA
  obtain ⟨d, rfl, rfl, rfl, wd⟩ := open_int Ybaf.underlying5 (hval 0 5 v0 rfl rfl) h0
  obtain ⟨b0, b1⟩ := bounds_u8 wd
  obtain ⟨a, s, hv1, hc1, hs1, hz1⟩ := laid_sentinel hL gErr gErrType Ybaf.underlying89 row133 Ybaf.underlying133 Ybaf.underlying135 rfl rfl Ybaf.underlying9 cells135 cells9
  obtain ⟨rfl, rfl⟩ := hV.unique (vars_read1 enc gErr gErrType Ybaf.underlying89 hv1 trivial _)
  clear hA0 hV0 hval0
  have hg1 : W.cell? ⟨0, 0, none⟩ = some (.iface 133 (.pointer (some a))) := by simpa using World.var?_cell gErr hv1 0
  have l0 : 0 < W.heap.size := World.block_lt_of_cell? W _ hg1
  obtain ⟨N, eN⟩ : ∃ N : Nat, 1048576 + (d % 3 - 1) = (N : Int) := ⟨(1048576 + (d % 3 - 1)).toNat, by omega⟩
  have hcall : Calls Ybaf.prog 6 #[.int .u8 d] W fun r w' => r = .returned (.bool true) ∧ Below W.heap.size W w' := by
    by_cases hN : N ≤ 1048576
    · exact boundary_fits d N W b0 b1 eN hN
    · exact boundary_big F.told d N a s W hF hg1 hc1 b0 b1 eN (by omega)
  refine hcall.mono fun e W' ⟨he, hb⟩ => ?_
  subst he
  refine ⟨_, rfl, _, _, _, [], [], [.cell 0 0], hW', ?_, ?_, ?_, hb.frame _, fun h => by cases h⟩
  · exact trodAll_mk1 (shut_bool Ybaf.underlying4 _)
  · exact trodAll_mk1 (shut_int Ybaf.underlying5 wd)
  · exact vars_read1 enc gErr gErrType Ybaf.underlying89 (var?_below hb gErr l0 hv1) trivial _

/-- ████ THE STATEMENT ████ -/
theorem proved : Rows.LawS2299CBoundaryToldSaid :=
  Claim7.holds_of_told_tied_any_at .later 6 Ybaf.f6 "fmt.Sprintf" ["fmt.errorf"] [] _ _ _ _ _ (by kernel_rfl) rfl rfl rfl laidOut (by kernel_rfl) rfl ⟨rfl, rfl, rfl, rfl, rfl, rfl, rfl⟩ rfl rfl (by kernel_rfl) (by kernel_rfl) Ybaf.func6 (by kernel_rfl)
    (of_decide_eq_true (by kernel_rfl)) (of_decide_eq_true (by kernel_rfl)) stops.symm rfl stopKnobs.symm (by kernel_rfl)
    (by kernel_rfl) (by kernel_rfl) (by kernel_rfl) (by kernel_rfl) (by kernel_rfl) (by kernel_rfl) (by kernel_rfl) (by kernel_rfl) (by kernel_rfl) rfl (by kernel_rfl) rfl rfl
    rfl rfl
    rfl (by kernel_rfl) (by kernel_rfl) (by kernel_rfl) (by decide) (by kernel_rfl) lawS2299CBoundary_row_tie
    (OpenClaim.moreEntering_of (by kernel_rfl) (by kernel_rfl) (by kernel_rfl) (by kernel_rfl) (by kernel_rfl) (by kernel_rfl) (by kernel_rfl) (by kernel_rfl) (by kernel_rfl) (by kernel_rfl))
    ⟨_, WideRow.started_initial, quiet _⟩
    (fun os started _ H enc _ => lifted os started H enc)
end Go.Proofs.YbulkauoyFmt.lawS2299CBoundary
