/-
  A proof of 'Rows.LawS2299BGlobalToldSaid': the told and tied card of vm.LawS2299BGlobal. The walk: YbulkauoyFmtGlobal; what the listed tables hold: YbulkauoyFmtTabs. No run comes to fmt (both calls of fmt.Sprintf stand ahead of a panic that is never reached).
-/
import Derived.Test.YbulkauoyFmtGlobal
import Derived.Test.YbulkauoyFmtTabs
import Derived.Test.YbulkauoyFmtTie
import Derived.Test.YbulkauoyFmtCards
import Derived.ProofKit
import Derived.SliceStrings
import Derived.OpenShut
import Derived.ShutString
import Derived.OpenVars
import Derived.Stop.JoinedTold
import Derived.Stop.JoinedAt
import Derived.Deep.DeepWitnessRef
import Derived.LaidMore
import Derived.SevenTiedAt
namespace Go.Proofs.YbulkauoyFmt.lawS2299BGlobal
open Go.ChangeShapes Go.WideShapes Go.ChangeAt Go.RowKit Go.Kit
open Go.ChangeMaps (open_string shut_string)
open Go.Extern.Stop Go.Stop Go.Extern

theorem own : ownKnob Ybaf.prog.godebug = none := by kernel_rfl
theorem laidOut : laidOutB Ybaf.pinned.checked.prog = true := by kernel_rfl
theorem stops : Ybaf.pinned.checked.prog.stops = ["fmt.Sprintf", "fmt.errorf"] := by kernel_rfl
theorem stopKnobs : Ybaf.pinned.checked.prog.stopKnobs = [] := by kernel_rfl
theorem quiet (os : Os) : Stop.quiet Ybaf.pinned.checked.prog os := by
  intro k hk
  rw [stopKnobs] at hk
  cases hk

/-- The door's own heap meets the condition: three closed facts. -/
theorem door_met (os : Os) (args : Array Value) : laidMetH Ybaf.prog Rows.lawS2299BGlobalRow.laid ((World.doorLaid Ybaf.prog 74 os).forCall (fun _ _ => 0) ⟨#[], args, []⟩).memory :=
  laidMetH_of_parts3 (fuel := 8) (laidMet_of_run' 8 (by kernel_rfl) (by kernel_rfl)) (by kernel_rfl) (by kernel_rfl)

set_option maxRecDepth 100000 in
theorem lifted (os : Os) (started : os.Started) (H : Type) (enc : TypeId × Value → H) :
    ReturnsInTold none {} Ybaf.checked os 3 .any Input.okWide ((OpenSpec.ofChange Rows.lawS2299BGlobalSpec).preRow enc Ybaf.prog Ybaf.f3 [] false Rows.lawS2299BGlobalRow.laid)
      (fun F => ((OpenSpec.ofChange Rows.lawS2299BGlobalSpec).at F).post enc Ybaf.prog Ybaf.f3 false true false false) (aloneAtReturn Ybaf.prog) nothingAlways := by
  refine returnsInTold_of_row (C := Ybaf.checked) (s := OpenSpec.ofChange Rows.lawS2299BGlobalSpec) (by kernel_rfl) own started (by kernel_rfl) Ybaf.func3
    (OpenSpec.witness_stopped_atRef (enc := enc) (C := Ybaf.checked) false (World.doorLaid Ybaf.prog 74 os) #[.slice none 0 0, .string ByteArray.empty, .int .u8 0] rfl (by kernel_rfl) (by kernel_rfl) (by kernel_rfl)
      (OpenSpec.preRow_of_B rfl 8 (by kernel_rfl) (by kernel_rfl) (door_met os _))) ?_
  intro F W base args ds gs before _ hF hval0 hW _ _ _ hL _
  have hval : ∀ (j : Nat) t v, Ybaf.f3.params[j]? = some t → args[j]? = some v → Value.okWide Ybaf.prog W .any base t v := hval0
  have hW' := hW
  obtain ⟨p, q, hA0, hV0, rfl, hfz, hnd⟩ := hW
  have hA : DataW.TrodAll enc Ybaf.prog W 0 (fun _ => true) true Ybaf.f3.params.toList args.toList ds p := hA0
  have hV : DataW.TrodVars enc Ybaf.prog W (fun _ => true) [nBind, nOps] gs q := hV0
  rw [Ybaf.params3] at hA hval
  obtain ⟨v0, vs0, d0, ds0, p0, q0, hargs, rfl, rfl, h0, r0⟩ := trodAll_cons hA
  obtain ⟨v1, vs1, d1, ds1, p1, q1, rfl, rfl, rfl, h1, r1⟩ := trodAll_cons r0
  obtain ⟨v2, vs2, d2, ds2, p2, q2, rfl, rfl, rfl, h2, r2⟩ := trodAll_cons r1
  obtain ⟨rfl, rfl, rfl⟩ := trodAll_nil r2
  obtain rfl : args = #[v0, v1, v2] := by cases args; simp_all
  obtain ⟨pao, len, cap, rfl⟩ := okWide_slice Ybaf.underlying22 (hval 0 22 v0 rfl rfl)
  obtain ⟨a1, rfl, rfl, rfl, w1⟩ := open_string Ybaf.underlying9 (hval 1 9 v1 rfl rfl) h1
  obtain ⟨a2, rfl, rfl, rfl, w2⟩ := open_int Ybaf.underlying5 (hval 2 5 v2 rfl rfl) h2
  clear hA0 hV0 hval0
  have htab : Tabs W := tabs_of_laid hL
  obtain ⟨h20, h21⟩ := bounds_u8 w2
  have hcall : Calls Ybaf.prog 3 #[.slice pao len cap, .string a1, .int .u8 a2] W fun r w' => r = .returned (.bool true) ∧ Below W.heap.size W w' := by
    by_cases hle : len ≤ 256
    · obtain ⟨fuel, hf⟩ := h0
      rcases open_strings Ybaf.underlying22 Ybaf.underlying9 (by kernel_rfl) hf with ⟨hcs, hx⟩ | ⟨a, len', cap', ss, hcs, _, hl, hm, hz, hx, hcell, hsz⟩
      · have hl0 : len = 0 := by simp [Value.cells] at hcs; exact hcs.2.1
        exact global_walk pao len cap a2 a1 [] W h20 h21 hle (.inl hl0) htab
      · have hcs' : pao = some a ∧ len = len' ∧ cap = cap' := by simpa [Value.cells] using hcs
        refine global_walk pao len cap a2 a1 ss W h20 h21 hle (.inr ⟨a, hcs'.1, fun t ht => hcell t ?_⟩) htab
        rw [hz]
        split
        · omega
        · omega
    · exact global_long pao len cap a2 a1 W (by omega)
  refine hcall.mono fun e W' ⟨he, hb⟩ => ?_
  subst he
  have hV2 := Below.trodVars laidOut hb (by kernel_rfl) hV
  have h0' := Below.trod laidOut (by kernel_rfl) (of_decide_eq_true (by kernel_rfl)) h0 hb (fun x hx => hA.lt x (by simp [hx]))
  obtain ⟨g0, t0, cs0, f0, e0, s0, g1, t1, cs1, f1, e1, s1, rfl, _⟩ := trodVars_two hV
  refine ⟨_, rfl, _, _, _, [], p0 ++ ([] ++ ([] ++ [])), q, hW', ?_, ?_, ?_, hb.frame _, fun h => by cases h⟩
  · exact trodAll_cons_mk (shut_bool Ybaf.underlying4 _) trodAll_mk0
  · exact trodAll_cons_mk h0' (trodAll_cons_mk (shut_string Ybaf.underlying9 w1) (trodAll_cons_mk (shut_int Ybaf.underlying5 w2) trodAll_mk0))
  · exact hV2

/-- ████ THE STATEMENT ████ -/
theorem proved : Rows.LawS2299BGlobalToldSaid :=
  Claim7.holds_of_told_tied_any_at .later 3 Ybaf.f3 "fmt.Sprintf" ["fmt.errorf"] [] _ _ _ _ _ (by kernel_rfl) rfl rfl rfl laidOut (by kernel_rfl) rfl ⟨rfl, rfl, rfl, rfl, rfl, rfl, rfl⟩ rfl rfl (by kernel_rfl) (by kernel_rfl) Ybaf.func3 (by kernel_rfl)
    (of_decide_eq_true (by kernel_rfl)) (of_decide_eq_true (by kernel_rfl)) stops.symm rfl stopKnobs.symm (by kernel_rfl)
    (by kernel_rfl) (by kernel_rfl) (by kernel_rfl) (by kernel_rfl) (by kernel_rfl) (by kernel_rfl) (by kernel_rfl) (by kernel_rfl) (by kernel_rfl) rfl (by kernel_rfl) rfl rfl
    rfl rfl
    rfl (by kernel_rfl) (by kernel_rfl) (by kernel_rfl) (by decide) (by kernel_rfl) lawS2299BGlobal_row_tie
    (OpenClaim.moreEntering_of (by kernel_rfl) (by kernel_rfl) (by kernel_rfl) (by kernel_rfl) (by kernel_rfl) (by kernel_rfl) (by kernel_rfl) (by kernel_rfl) (by kernel_rfl) (by kernel_rfl))
    ⟨_, WideRow.started_initial, quiet _⟩
    (fun os started _ H enc _ => lifted os started H enc)
end Go.Proofs.YbulkauoyFmt.lawS2299BGlobal
