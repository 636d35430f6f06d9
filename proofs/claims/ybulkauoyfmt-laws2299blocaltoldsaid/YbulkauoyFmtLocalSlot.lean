import Derived.Test.YbulkauoyFmtLocal
import Derived.Deep.CutRange
namespace Go.Proofs.YbulkauoyFmt
open Go.ChangeShapes Go.WideShapes Go.ChangeAt Go.RowKit

set_option maxRecDepth 100000 in
set_option maxHeartbeats 3200000 in
theorem local_slot (a0 a1 a2 a3 a4 : Int) (name : ByteArray) (w : World) (h00 : 0 ≤ a0) (h01 : a0 ≤ 255) (h10 : 0 ≤ a1) (h11 : a1 ≤ 255) (h20 : -128 ≤ a2) (h21 : a2 ≤ 127) (h30 : 0 ≤ a3) (h31 : a3 ≤ 255) (h40 : 0 ≤ a4) (h41 : a4 ≤ 255)
    (N I p : Nat) (eN : a0 % 8 + 1 = (N : Int)) (eI : a1 % (N : Int) = (I : Int)) (ep : a4 % 4 = (p : Int)) (hN : N ≤ 8) (hN1 : 1 ≤ N) (hI : I < N) (hp : p ≤ 3) (ha : a2 < 0) (htab : Tabs w) :
    Calls Ybaf.prog 4 #[.int .u8 a0, .int .u8 a1, .int .i8 a2, .int .u8 a3, .int .u8 a4, .string name] w fun r w' => r = .returned (.bool true) ∧ Below w.heap.size w w' := by
  have hna : ¬ 0 ≤ a2 := by omega
  have m32 := make32 p (by omega)
  have m39 := make39 N (by omega)
  have m35 := make35 N (by omega)
  have m40 := make40 N (by omega)
  go_enter Ybaf.func4, Ybaf.ntmps4
  go_wp2_with (go_at_call 8; refine (newCompiler_any _).mono ?_; rintro r w' ⟨rfl, rfl⟩)
  go_loopw [19] (fun k wr => ∃ (j : Nat) (C : Array Value), j ≤ N ∧ k = .int .i64 j ∧ C.size = N ∧ (∀ t, t < j → C[t]? = some (.int .i64 (-1))) ∧ Laid w N p a3 C wr) (fun k _ => N - (intOf k).toNat)
  case atStart =>
    refine ⟨0, _, Nat.zero_le _, rfl, copies_size N (.int .i64 0), fun t h => by omega, ?_⟩
    exact laid_start w N p a3
  case round =>
    obtain ⟨j, C, hj, rfl, hC, hC1, hL⟩ := hrel
    by_cases hlt : j < N
    · have k7 : wr.cell? ⟨w.heap.size + 1 + 1 + 1 + 1 + 1 + 1 + 1, 7, none⟩ = some (.slice (some ⟨w.heap.size + 1 + 1 + 1 + 1 + 1 + 1 + 1 + 1 + 1, 0, none⟩) N N) := cellB hL.cu
      obtain ⟨v0, hv0⟩ : ∃ v0, wr.cell? ⟨w.heap.size + 1 + 1 + 1 + 1 + 1 + 1 + 1 + 1 + 1, j, none⟩ = some v0 := ⟨C[j]'(by omega), (cellB hL.xs).trans (by simp [hC, hlt])⟩
      have z9 : wr.frozen? ⟨w.heap.size + 1 + 1 + 1 + 1 + 1 + 1 + 1 + 1 + 1, j, none⟩ = false := freeB hL.xs
      have HL : Hid (Laid w N p a3 C wr) := hL
      have H1 : Hid (∀ t, t < j → C[t]? = some (.int .i64 (-1))) := hC1
      clear hL hC1 m32 m39 m35 m40
      go_wp2
      go_roundw
      case rel =>
        refine ⟨j + 1, C.setIfInBounds j (.int .i64 (-1)), by omega, by go_num, by simp [hC], fun t ht => ?_, HL.out.put j _⟩
        by_cases e : t = j
        · subst e; simp [hC, hlt]
        · rw [Array.getElem?_setIfInBounds_ne (Ne.symm e)]; exact H1.out t (by omega)
      case measure => simp [intOf]; omega
    · obtain rfl : j = N := by omega
      have hsz : wr.heap.size = w.heap.size + 1 + 1 + 1 + 1 + 1 + 1 + 1 + 1 + 1 + 1 := hL.size
      have k78 : wr.cell? ⟨w.heap.size + 1 + 1 + 1 + 1 + 1 + 1 + 1, 8, none⟩ = some (.slice none 0 0) := cellB hL.cu
      have z78 : wr.frozen? ⟨w.heap.size + 1 + 1 + 1 + 1 + 1 + 1 + 1, 8, none⟩ = false := freeB hL.cu
      have k76 : wr.cell? ⟨w.heap.size + 1 + 1 + 1 + 1 + 1 + 1 + 1, 6, none⟩ = some (.slice (some ⟨w.heap.size + 1 + 1 + 1 + 1 + 1 + 1 + 1 + 1, 0, none⟩) j j) := cellB hL.cu
      have k8I : wr.cell? ⟨w.heap.size + 1 + 1 + 1 + 1 + 1 + 1 + 1 + 1, I, none⟩ = some (.pointer none) := (cellB hL.bd).trans (copies_at hI)
      have z8I : wr.frozen? ⟨w.heap.size + 1 + 1 + 1 + 1 + 1 + 1 + 1 + 1, I, none⟩ = false := freeB hL.bd
      have hi0 : (0 : Int) ≤ (I : Int) := Int.natCast_nonneg _
      have hi1 : (I : Int) < (j : Int) := by omega
      have HL : Hid (Laid w j p a3 C wr) := hL
      have H1 : Hid (∀ t, t < j → C[t]? = some (.int .i64 (-1))) := hC1
      clear hL hC1 m32 m39 m35 hlt
      go_upto_region 16 with fail
      go_cut [21] from 62 (fun v wc => v = .bool false ∧ Laid2 w j p I a3 name C wc)
      case first =>
        go_wp2_with fail
        go_meet
        case rel => exact ⟨congrArg Value.bool (decide_eq_false (by omega)), laid2_of HL.out⟩
      case rest =>
        obtain ⟨rfl, hL2⟩ := hcut
        clear HL k78 z78 k76 k8I z8I hsz m40
        have hsz : wc.heap.size = w.heap.size + 1 + 1 + 1 + 1 + 1 + 1 + 1 + 1 + 1 + 1 + 1 + 1 := hL2.size
        have k23 : wc.cell? ⟨w.heap.size + 1 + 1, 3, none⟩ = some (.map (some (w.heap.size + 1))) := cellB hL2.c
        obtain ⟨WE, hWE⟩ : ∃ WE, WE = withEntry wc (w.heap.size + 1) name (.pointer (some ⟨w.heap.size + 1 + 1 + 1 + 1 + 1 + 1 + 1 + 1 + 1 + 1 + 1, 0, none⟩)) := ⟨_, rfl⟩
        have hup := update_first wc (w.heap.size + 1) name (.pointer (some ⟨w.heap.size + 1 + 1 + 1 + 1 + 1 + 1 + 1 + 1 + 1 + 1 + 1, 0, none⟩)) hL2.s
        rw [← hWE] at hup
        have hWt := withEntry_turned wc (w.heap.size + 1) name (.pointer (some ⟨w.heap.size + 1 + 1 + 1 + 1 + 1 + 1 + 1 + 1 + 1 + 1 + 1, 0, none⟩))
        rw [← hWE] at hWt
        have k22 : WE.cell? ⟨w.heap.size + 1 + 1, 2, none⟩ = some (.pointer none) := cellB (turnedB hWt hL2.c (by omega))
        have z22 : WE.frozen? ⟨w.heap.size + 1 + 1, 2, none⟩ = false := freeB (turnedB hWt hL2.c (by omega))
        have HR : Hid (Laid3 w j p I a3 name C (WE.setCell ⟨w.heap.size + 1 + 1, 2, none⟩ (.pointer (some ⟨w.heap.size + 1 + 1 + 1 + 1 + 1 + 1 + 1, 0, none⟩)))) := by rw [hWE]; exact laid3_of hL2
        clear hL2 hWt hWE
        go_wp2_with fail
        have l1 : 1 < w.heap.size := World.block_lt_of_cell? w _ htab.o1
        refine (bind_local (w.heap.size + 1 + 1) (w.heap.size + 1 + 1 + 1 + 1 + 1 + 1 + 1) (w.heap.size + 1 + 1 + 1 + 1 + 1 + 1) (w.heap.size + 1 + 1 + 1 + 1) (w.heap.size + 1) (w.heap.size + 1 + 1 + 1 + 1 + 1 + 1 + 1 + 1 + 1 + 1 + 1) (w.heap.size + 1 + 1 + 1 + 1 + 1 + 1 + 1 + 1 + 1) (w.heap.size + 1 + 1 + 1 + 1 + 1 + 1 + 1 + 1 + 1 + 1) w.heap.size p j I a3 (-1) name (.slice (some ⟨w.heap.size + 1 + 1 + 1 + 1 + 1, 0, none⟩) p p) (zInstr p).toList _ (HR.out.unit8 htab hp) h30 h31 (by decide) (by omega) (by omega) hi1 (cellB HR.out.cu) (cellB HR.out.c) (lookup_one _ _ _ _ _ _ HR.out.s) (cellB HR.out.b) (cellB HR.out.b) (cellB HR.out.cu) ((cellB HR.out.xs).trans (H1.out I hI)) (keepsB HR.out.below htab.o0 l1) (cellB HR.out.cu) ((cellB HR.out.ss).trans (copies_at hI)) (freeB HR.out.ss) (by omega) (by omega) (by simp only [Value.ownBlock, ne_eq, Option.some.injEq]; omega) (by omega) (by omega) (by simp only [Value.ownBlock, ne_eq, Option.some.injEq]; omega)).mono ?_
        rintro r w1 ⟨rfl, we, hE, hS1, hS2, gs, caps, hgs, hS3, hS4⟩
        obtain ⟨g, cap, hD⟩ := coded_of HR.out hE
        clear hE HR hup k22 z22 k23 hsz
        have d0 := hS1.cell hD.u0 (by omega); have d5 := hS1.cell hD.u5 (by omega); have d8 := hS1.cell hD.u8 (by omega); have df := hS1.cell hD.f0 (by omega)
        have di0 := hS1.cell hD.i0 hD.ng; have di1 := hS1.cell hD.i1 hD.ng; have di2 := hS1.cell hD.i2 hD.ng; have di3 := hS1.cell hD.i3 hD.ng
        have dpu := hS1.cell hD.pu (by omega); have dpf := hS1.cell hD.pf (by omega); have dc1 := hS1.cell hD.c1 (by omega); have dc0 := hS1.cell hD.c0 (by omega)
        have lg : g < w1.heap.size := Nat.lt_of_lt_of_le hD.lg hS1.size
        have lgs : gs < w1.heap.size := World.block_lt_of_cell? w1 _ hS4
        have l10 : w.heap.size + 1 + 1 + 1 + 1 + 1 + 1 + 1 + 1 + 1 + 1 < w1.heap.size := World.block_lt_of_cell? w1 _ hS3
        have l7 : w.heap.size + 1 + 1 + 1 + 1 + 1 + 1 + 1 < w1.heap.size := by omega
        have l4 : w.heap.size + 1 + 1 + 1 + 1 < w1.heap.size := by omega
        have l3 : w.heap.size + 1 + 1 + 1 < w1.heap.size := by omega
        have l2 : w.heap.size + 1 + 1 < w1.heap.size := by omega
        have l0 : w.heap.size < w1.heap.size := by omega
        have hp0 : (0 : Int) ≤ (p : Int) := Int.natCast_nonneg _
        have HN : Hid (∀ t, t < j → t ≠ I → w1.cell? ⟨w.heap.size + 1 + 1 + 1 + 1 + 1 + 1 + 1 + 1 + 1 + 1, t, none⟩ = some (.slice none 0 0)) := fun t h1 h2 => (hS2 t h2).trans ((cellB hD.ss).trans (copies_at h1))
        have HG : Hid (w1.heap[w.heap.size]? = some (.map #[] 0)) := turnedB hS1 hD.g0 (by omega)
        have HB : Hid (Below w.heap.size w w1) := hD.below.trans (hS1.below (B := w.heap.size) (Nat.le_trans (Nat.le_refl _) (by have := hD.below.size; omega)) (fun b hb => by omega))
        clear hD hS1 hS2 hgs
        go_wp2
        go_loop [24] (fun k => ∃ t : Nat, t ≤ j ∧ k = .int .i64 t) (fun k => j - (intOf k).toNat)
        case atStart => exact ⟨0, Nat.zero_le _, rfl⟩
        case round =>
          obtain ⟨t, ht, rfl⟩ := hrel
          by_cases htj : t < j
          · have ht0 : (0 : Int) ≤ (t : Int) := Int.natCast_nonneg _
            have ht1 : (t : Int) < (j : Int) := by omega
            by_cases hti : t = I
            · subst hti
              have hb : ((t : Int) != (t : Int)) = false := by simp
              go_wp2
              exact ⟨⟨t + 1, by omega, by go_num⟩, by simp [intOf]; omega⟩
            · have kt : w1.cell? ⟨w.heap.size + 1 + 1 + 1 + 1 + 1 + 1 + 1 + 1 + 1 + 1, t, none⟩ = some (.slice none 0 0) := HN.out t htj hti
              have hb : ((t : Int) != (I : Int)) = true := by rw [bne_iff_ne]; omega
              go_wp2
              exact ⟨⟨t + 1, by omega, by go_num⟩, by simp [intOf]; omega⟩
          · have hlen := fun o => len_empty (w1.alloc o) w.heap.size (oldB HG.out)
            go_wp2
            go_ret
            exact ⟨rfl, HB.out.alloc (Nat.le_of_lt l0) _⟩
end Go.Proofs.YbulkauoyFmt
