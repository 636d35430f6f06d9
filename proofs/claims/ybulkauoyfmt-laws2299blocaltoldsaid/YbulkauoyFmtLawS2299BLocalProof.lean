/-
  A proof of 'Rows.LawS2299BLocalToldSaid': the told and tied card of vm.LawS2299BLocal. The walks: YbulkauoyFmtLocal, YbulkauoyFmtLocalSlot; what the listed tables hold: YbulkauoyFmtTabs. No run comes to fmt (both calls of fmt.Sprintf stand ahead of a panic that is never reached).
-/
import Derived.Test.YbulkauoyFmtLocalSlot
import Derived.Test.YbulkauoyFmtTabs
import Derived.Test.YbulkauoyFmtTie
import Derived.Test.YbulkauoyFmtCards
import Derived.ProofKit
import Derived.OpenShut
import Derived.ShutString
import Derived.OpenVars
import Derived.Stop.JoinedTold
import Derived.Stop.JoinedAt
import Derived.Deep.DeepWitnessRef
import Derived.LaidMore
import Derived.SevenTiedAt
namespace Go.Proofs.YbulkauoyFmt.lawS2299BLocal
open Go.ChangeShapes Go.WideShapes Go.ChangeAt Go.RowKit Go.Kit
open Go.ChangeMaps (open_string shut_string)
open Go.Extern.Stop Go.Stop Go.Extern

theorem own : ownKnob Ybaf.prog.godebug = none := by kernel_rfl
theorem laidOut : laidOutB Ybaf.pinned.checked.prog = true := by kernel_rfl
theorem stops : Ybaf.pinned.checked.prog.stops = ["fmt.Sprintf", "fmt.errorf"] := by kernel_rfl
theorem stopKnobs : Ybaf.pinned.checked.prog.stopKnobs = [] := by kernel_rfl
theorem quiet (os : Os) : Stop.quiet Ybaf.pinned.checked.prog os := by
  intro k hk
  rw [stopKnobs] at hk
  cases hk

/-- The door's own heap meets the condition: three closed facts. -/
theorem door_met (os : Os) (args : Array Value) : laidMetH Ybaf.prog Rows.lawS2299BLocalRow.laid ((World.doorLaid Ybaf.prog 74 os).forCall (fun _ _ => 0) ⟨#[], args, []⟩).memory :=
  laidMetH_of_parts3 (fuel := 8) (laidMet_of_run' 8 (by kernel_rfl) (by kernel_rfl)) (by kernel_rfl) (by kernel_rfl)

/-- Both ways of the law. -/
theorem walk (a0 a1 a2 a3 a4 : Int) (name : ByteArray) (w : World) (w0 : (Lit.int .u8 a0).wf = true) (w1 : (Lit.int .u8 a1).wf = true) (w2 : (Lit.int .i8 a2).wf = true) (w3 : (Lit.int .u8 a3).wf = true) (w4 : (Lit.int .u8 a4).wf = true) (htab : Tabs w) :
    Calls Ybaf.prog 4 #[.int .u8 a0, .int .u8 a1, .int .i8 a2, .int .u8 a3, .int .u8 a4, .string name] w fun r w' => r = .returned (.bool true) ∧ Below w.heap.size w w' := by
  obtain ⟨h00, h01⟩ := bounds_u8 w0
  obtain ⟨h10, h11⟩ := bounds_u8 w1
  obtain ⟨h20, h21⟩ := bounds_i8 w2
  obtain ⟨h30, h31⟩ := bounds_u8 w3
  obtain ⟨h40, h41⟩ := bounds_u8 w4
  obtain ⟨N, eN⟩ : ∃ N : Nat, a0 % 8 + 1 = (N : Int) := ⟨(a0 % 8 + 1).toNat, by omega⟩
  have hN : N ≤ 8 := by omega
  have hN1 : 1 ≤ N := by omega
  have hb0 : 0 ≤ a1 % (N : Int) := Int.emod_nonneg _ (by omega)
  have hb1 : a1 % (N : Int) < (N : Int) := Int.emod_lt_of_pos _ (by omega)
  obtain ⟨I, eI⟩ : ∃ I : Nat, a1 % (N : Int) = (I : Int) := ⟨(a1 % (N : Int)).toNat, by omega⟩
  obtain ⟨p, ep⟩ : ∃ p : Nat, a4 % 4 = (p : Int) := ⟨(a4 % 4).toNat, by omega⟩
  by_cases ha : 0 ≤ a2
  · exact local_cell a0 a1 a2 a3 a4 name w h00 h01 h10 h11 h20 h21 h30 h31 h40 h41 N I p eN eI ep hN hN1 (by omega) (by omega) ha htab
  · exact local_slot a0 a1 a2 a3 a4 name w h00 h01 h10 h11 h20 h21 h30 h31 h40 h41 N I p eN eI ep hN hN1 (by omega) (by omega) (by omega) htab

set_option maxRecDepth 100000 in
theorem lifted (os : Os) (started : os.Started) (H : Type) (enc : TypeId × Value → H) :
    ReturnsInTold none {} Ybaf.checked os 4 .any Input.okWide ((OpenSpec.ofChange Rows.lawS2299BLocalSpec).preRow enc Ybaf.prog Ybaf.f4 [] false Rows.lawS2299BLocalRow.laid)
      (fun F => ((OpenSpec.ofChange Rows.lawS2299BLocalSpec).at F).post enc Ybaf.prog Ybaf.f4 false true false false) (aloneAtReturn Ybaf.prog) nothingAlways := by
  refine returnsInTold_of_row (C := Ybaf.checked) (s := OpenSpec.ofChange Rows.lawS2299BLocalSpec) (by kernel_rfl) own started (by kernel_rfl) Ybaf.func4
    (OpenSpec.witness_stopped_atRef (enc := enc) (C := Ybaf.checked) false (World.doorLaid Ybaf.prog 74 os) #[.int .u8 0, .int .u8 0, .int .i8 0, .int .u8 0, .int .u8 0, .string ByteArray.empty] rfl (by kernel_rfl) (by kernel_rfl) (by kernel_rfl)
      (OpenSpec.preRow_of_B rfl 8 (by kernel_rfl) (by kernel_rfl) (door_met os _))) ?_
  intro F W base args ds gs before _ hF hval0 hW _ _ _ hL _
  have hval : ∀ (j : Nat) t v, Ybaf.f4.params[j]? = some t → args[j]? = some v → Value.okWide Ybaf.prog W .any base t v := hval0
  have hW' := hW
  obtain ⟨p, q, hA0, hV0, rfl, hfz, hnd⟩ := hW
  have hA : DataW.TrodAll enc Ybaf.prog W 0 (fun _ => true) true Ybaf.f4.params.toList args.toList ds p := hA0
  have hV : DataW.TrodVars enc Ybaf.prog W (fun _ => true) [nBind, nOps] gs q := hV0
  rw [Ybaf.params4] at hA hval
  obtain ⟨v0, vs0, d0, ds0, p0, q0, hargs, rfl, rfl, h0, r0⟩ := trodAll_cons hA
  obtain ⟨v1, vs1, d1, ds1, p1, q1, rfl, rfl, rfl, h1, r1⟩ := trodAll_cons r0
  obtain ⟨v2, vs2, d2, ds2, p2, q2, rfl, rfl, rfl, h2, r2⟩ := trodAll_cons r1
  obtain ⟨v3, vs3, d3, ds3, p3, q3, rfl, rfl, rfl, h3, r3⟩ := trodAll_cons r2
  obtain ⟨v4, vs4, d4, ds4, p4, q4, rfl, rfl, rfl, h4, r4⟩ := trodAll_cons r3
  obtain ⟨v5, vs5, d5, ds5, p5, q5, rfl, rfl, rfl, h5, r5⟩ := trodAll_cons r4
  obtain ⟨rfl, rfl, rfl⟩ := trodAll_nil r5
  obtain rfl : args = #[v0, v1, v2, v3, v4, v5] := by cases args; simp_all
  obtain ⟨a0, rfl, rfl, rfl, w0⟩ := open_int Ybaf.underlying5 (hval 0 5 v0 rfl rfl) h0
  obtain ⟨a1, rfl, rfl, rfl, w1⟩ := open_int Ybaf.underlying5 (hval 1 5 v1 rfl rfl) h1
  obtain ⟨a2, rfl, rfl, rfl, w2⟩ := open_int Ybaf.underlying52 (hval 2 52 v2 rfl rfl) h2
  obtain ⟨a3, rfl, rfl, rfl, w3⟩ := open_int Ybaf.underlying5 (hval 3 5 v3 rfl rfl) h3
  obtain ⟨a4, rfl, rfl, rfl, w4⟩ := open_int Ybaf.underlying5 (hval 4 5 v4 rfl rfl) h4
  obtain ⟨a5, rfl, rfl, rfl, w5⟩ := open_string Ybaf.underlying9 (hval 5 9 v5 rfl rfl) h5
  clear hA0 hV0 hval0
  have htab : Tabs W := tabs_of_laid hL
  refine (walk a0 a1 a2 a3 a4 a5 W w0 w1 w2 w3 w4 htab).mono fun e W' ⟨he, hb⟩ => ?_
  subst he
  have hV2 := Below.trodVars laidOut hb (by kernel_rfl) hV
  obtain ⟨g0, t0, cs0, f0, e0, s0, g1, t1, cs1, f1, e1, s1, rfl, _⟩ := trodVars_two hV
  refine ⟨_, rfl, _, _, _, [], [], q, hW', ?_, ?_, ?_, hb.frame _, fun h => by cases h⟩
  · exact trodAll_cons_mk (shut_bool Ybaf.underlying4 _) trodAll_mk0
  · exact trodAll_cons_mk (shut_int Ybaf.underlying5 w0) (trodAll_cons_mk (shut_int Ybaf.underlying5 w1) (trodAll_cons_mk (shut_int Ybaf.underlying52 w2) (trodAll_cons_mk (shut_int Ybaf.underlying5 w3) (trodAll_cons_mk (shut_int Ybaf.underlying5 w4) (trodAll_cons_mk (shut_string Ybaf.underlying9 w5) trodAll_mk0)))))
  · exact hV2

/-- ████ THE STATEMENT ████ -/
theorem proved : Rows.LawS2299BLocalToldSaid :=
  Claim7.holds_of_told_tied_any_at .later 4 Ybaf.f4 "fmt.Sprintf" ["fmt.errorf"] [] _ _ _ _ _ (by kernel_rfl) rfl rfl rfl laidOut (by kernel_rfl) rfl ⟨rfl, rfl, rfl, rfl, rfl, rfl, rfl⟩ rfl rfl (by kernel_rfl) (by kernel_rfl) Ybaf.func4 (by kernel_rfl)
    (of_decide_eq_true (by kernel_rfl)) (of_decide_eq_true (by kernel_rfl)) stops.symm rfl stopKnobs.symm (by kernel_rfl)
    (by kernel_rfl) (by kernel_rfl) (by kernel_rfl) (by kernel_rfl) (by kernel_rfl) (by kernel_rfl) (by kernel_rfl) (by kernel_rfl) (by kernel_rfl) rfl (by kernel_rfl) rfl rfl
    rfl rfl
    rfl (by kernel_rfl) (by kernel_rfl) (by kernel_rfl) (by decide) (by kernel_rfl) lawS2299BLocal_row_tie
    (OpenClaim.moreEntering_of (by kernel_rfl) (by kernel_rfl) (by kernel_rfl) (by kernel_rfl) (by kernel_rfl) (by kernel_rfl) (by kernel_rfl) (by kernel_rfl) (by kernel_rfl) (by kernel_rfl))
    ⟨_, WideRow.started_initial, quiet _⟩
    (fun os started _ H enc _ => lifted os started H enc)
end Go.Proofs.YbulkauoyFmt.lawS2299BLocal
