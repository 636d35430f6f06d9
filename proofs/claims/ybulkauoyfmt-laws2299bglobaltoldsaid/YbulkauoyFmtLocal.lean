import Derived.Test.YbulkauoyFmtCoded
import Derived.Deep.CutRange
namespace Go.Proofs.YbulkauoyFmt
open Go.ChangeShapes Go.WideShapes Go.ChangeAt Go.RowKit

theorem newCompiler_any (w : World) : Calls Ybaf.prog 8 #[] w fun r w' => r = .returned (.pointer (some ⟨w.heap.size + 1 + 1, 0, none⟩)) ∧
    w' = ((w.alloc (.map #[] 0)).alloc (.map #[] 0)).alloc (.cells #[.map (some (w.heap.size)), .slice none 0 0, .pointer none, .map (some (w.heap.size + 1))] 30) := by
  have hmm := @run_makeMap Ybaf.prog
  go_enter Ybaf.func8, Ybaf.ntmps8
  go_wp2
  go_ret
  exact ⟨rfl, rfl⟩

theorem len_empty (w : World) (b : Nat) (hb : w.heap[b]? = some (.map #[] 0)) : (Builtin.len_ #[26] 3 #[.map (some b)]).run Ybaf.prog w = .ok (.int .i64 0) w := by
  simp [Builtin.len_, run_underlying Ybaf.underlying26, MapKept.run_getObj_map hb, goInt, Result.andThen]

set_option maxRecDepth 100000 in
set_option maxHeartbeats 3200000 in
theorem local_cell (a0 a1 a2 a3 a4 : Int) (name : ByteArray) (w : World) (h00 : 0 ≤ a0) (h01 : a0 ≤ 255) (h10 : 0 ≤ a1) (h11 : a1 ≤ 255) (h20 : -128 ≤ a2) (h21 : a2 ≤ 127) (h30 : 0 ≤ a3) (h31 : a3 ≤ 255) (h40 : 0 ≤ a4) (h41 : a4 ≤ 255)
    (N I p : Nat) (eN : a0 % 8 + 1 = (N : Int)) (eI : a1 % (N : Int) = (I : Int)) (ep : a4 % 4 = (p : Int)) (hN : N ≤ 8) (hN1 : 1 ≤ N) (hI : I < N) (hp : p ≤ 3) (ha : 0 ≤ a2) (htab : Tabs w) :
    Calls Ybaf.prog 4 #[.int .u8 a0, .int .u8 a1, .int .i8 a2, .int .u8 a3, .int .u8 a4, .string name] w fun r w' => r = .returned (.bool true) ∧ Below w.heap.size w w' := by
  have m32 := make32 p (by omega)
  have m39 := make39 N (by omega)
  have m35 := make35 N (by omega)
  have m40 := make40 N (by omega)
  go_enter Ybaf.func4, Ybaf.ntmps4
  go_wp2_with (go_at_call 8; refine (newCompiler_any _).mono ?_; rintro r w' ⟨rfl, rfl⟩)
  go_loopw [19] (fun k wr => ∃ (j : Nat) (C : Array Value), j ≤ N ∧ k = .int .i64 j ∧ C.size = N ∧ (∀ t, t < j → C[t]? = some (.int .i64 (-1))) ∧ Laid w N p a3 C wr) (fun k _ => N - (intOf k).toNat)
  case atStart =>
    refine ⟨0, _, Nat.zero_le _, rfl, copies_size N (.int .i64 0), fun t h => by omega, ?_⟩
    exact laid_start w N p a3
  case round =>
    obtain ⟨j, C, hj, rfl, hC, hC1, hL⟩ := hrel
    by_cases hlt : j < N
    · have k7 : wr.cell? ⟨w.heap.size + 1 + 1 + 1 + 1 + 1 + 1 + 1, 7, none⟩ = some (.slice (some ⟨w.heap.size + 1 + 1 + 1 + 1 + 1 + 1 + 1 + 1 + 1, 0, none⟩) N N) := cellB hL.cu
      obtain ⟨v0, hv0⟩ : ∃ v0, wr.cell? ⟨w.heap.size + 1 + 1 + 1 + 1 + 1 + 1 + 1 + 1 + 1, j, none⟩ = some v0 := ⟨C[j]'(by omega), (cellB hL.xs).trans (by simp [hC, hlt])⟩
      have z9 : wr.frozen? ⟨w.heap.size + 1 + 1 + 1 + 1 + 1 + 1 + 1 + 1 + 1, j, none⟩ = false := freeB hL.xs
      have HL : Hid (Laid w N p a3 C wr) := hL
      have H1 : Hid (∀ t, t < j → C[t]? = some (.int .i64 (-1))) := hC1
      clear hL hC1 m32 m39 m35 m40
      go_wp2
      go_roundw
      case rel =>
        refine ⟨j + 1, C.setIfInBounds j (.int .i64 (-1)), by omega, by go_num, by simp [hC], fun t ht => ?_, HL.out.put j _⟩
        by_cases e : t = j
        · subst e; simp [hC, hlt]
        · rw [Array.getElem?_setIfInBounds_ne (Ne.symm e)]; exact H1.out t (by omega)
      case measure => simp [intOf]; omega
    · obtain rfl : j = N := by omega
      have hsz : wr.heap.size = w.heap.size + 1 + 1 + 1 + 1 + 1 + 1 + 1 + 1 + 1 + 1 := hL.size
      have k78 : wr.cell? ⟨w.heap.size + 1 + 1 + 1 + 1 + 1 + 1 + 1, 8, none⟩ = some (.slice none 0 0) := cellB hL.cu
      have z78 : wr.frozen? ⟨w.heap.size + 1 + 1 + 1 + 1 + 1 + 1 + 1, 8, none⟩ = false := freeB hL.cu
      have k76 : wr.cell? ⟨w.heap.size + 1 + 1 + 1 + 1 + 1 + 1 + 1, 6, none⟩ = some (.slice (some ⟨w.heap.size + 1 + 1 + 1 + 1 + 1 + 1 + 1 + 1, 0, none⟩) j j) := cellB hL.cu
      have k8I : wr.cell? ⟨w.heap.size + 1 + 1 + 1 + 1 + 1 + 1 + 1 + 1, I, none⟩ = some (.pointer none) := (cellB hL.bd).trans (copies_at hI)
      have z8I : wr.frozen? ⟨w.heap.size + 1 + 1 + 1 + 1 + 1 + 1 + 1 + 1, I, none⟩ = false := freeB hL.bd
      have hi0 : (0 : Int) ≤ (I : Int) := Int.natCast_nonneg _
      have hi1 : (I : Int) < (j : Int) := by omega
      have HL : Hid (Laid w j p a3 C wr) := hL
      have H1 : Hid (∀ t, t < j → C[t]? = some (.int .i64 (-1))) := hC1
      clear hL hC1 m32 m39 m35 hlt
      go_upto_region 16 with fail
      go_cut [21] from 62 (fun v wc => v = .bool true ∧ Laid2 w j p I a3 name C wc)
      case first =>
        go_wp2_with fail
        go_meet
        case rel => exact ⟨rfl, laid2_of HL.out⟩
      case rest =>
        obtain ⟨rfl, hL2⟩ := hcut
        clear HL k78 z78 k76 k8I z8I hsz m40
        have hsz : wc.heap.size = w.heap.size + 1 + 1 + 1 + 1 + 1 + 1 + 1 + 1 + 1 + 1 + 1 + 1 := hL2.size
        have k77 : wc.cell? ⟨w.heap.size + 1 + 1 + 1 + 1 + 1 + 1 + 1, 7, none⟩ = some (.slice (some ⟨w.heap.size + 1 + 1 + 1 + 1 + 1 + 1 + 1 + 1 + 1, 0, none⟩) j j) := cellB hL2.cu
        have k9I : wc.cell? ⟨w.heap.size + 1 + 1 + 1 + 1 + 1 + 1 + 1 + 1 + 1, I, none⟩ = some (.int .i64 (-1)) := (cellB hL2.xs).trans (H1.out I hI)
        have z9I : wc.frozen? ⟨w.heap.size + 1 + 1 + 1 + 1 + 1 + 1 + 1 + 1 + 1, I, none⟩ = false := freeB hL2.xs
        have k23 : wc.cell? ⟨w.heap.size + 1 + 1, 3, none⟩ = some (.map (some (w.heap.size + 1))) := cellB hL2.c
        have hL2' := hL2.put I (.int .i64 a2)
        have k9' : (wc.setCell ⟨w.heap.size + 1 + 1 + 1 + 1 + 1 + 1 + 1 + 1 + 1, I, none⟩ (.int .i64 a2)).cell? ⟨w.heap.size + 1 + 1 + 1 + 1 + 1 + 1 + 1 + 1 + 1, I, none⟩ = some (.int .i64 a2) := World.cell?_setCell_same _ _ _ k9I
        obtain ⟨WE, hWE⟩ : ∃ WE, WE = withEntry (wc.setCell ⟨w.heap.size + 1 + 1 + 1 + 1 + 1 + 1 + 1 + 1 + 1, I, none⟩ (.int .i64 a2)) (w.heap.size + 1) name (.pointer (some ⟨w.heap.size + 1 + 1 + 1 + 1 + 1 + 1 + 1 + 1 + 1 + 1 + 1, 0, none⟩)) := ⟨_, rfl⟩
        have hup := update_first (wc.setCell ⟨w.heap.size + 1 + 1 + 1 + 1 + 1 + 1 + 1 + 1 + 1, I, none⟩ (.int .i64 a2)) (w.heap.size + 1) name (.pointer (some ⟨w.heap.size + 1 + 1 + 1 + 1 + 1 + 1 + 1 + 1 + 1 + 1 + 1, 0, none⟩)) hL2'.s
        rw [← hWE] at hup
        have hWt := withEntry_turned (wc.setCell ⟨w.heap.size + 1 + 1 + 1 + 1 + 1 + 1 + 1 + 1 + 1, I, none⟩ (.int .i64 a2)) (w.heap.size + 1) name (.pointer (some ⟨w.heap.size + 1 + 1 + 1 + 1 + 1 + 1 + 1 + 1 + 1 + 1 + 1, 0, none⟩))
        rw [← hWE] at hWt
        have k22 : WE.cell? ⟨w.heap.size + 1 + 1, 2, none⟩ = some (.pointer none) := cellB (turnedB hWt hL2'.c (by omega))
        have z22 : WE.frozen? ⟨w.heap.size + 1 + 1, 2, none⟩ = false := freeB (turnedB hWt hL2'.c (by omega))
        have HR : Hid (Laid3 w j p I a3 name (C.setIfInBounds I (.int .i64 a2)) (WE.setCell ⟨w.heap.size + 1 + 1, 2, none⟩ (.pointer (some ⟨w.heap.size + 1 + 1 + 1 + 1 + 1 + 1 + 1, 0, none⟩)))) := by rw [hWE]; exact laid3_of hL2'
        have HC : Hid ((C.setIfInBounds I (.int .i64 a2))[I]? = some (.int .i64 a2)) := by
          have : I < C.size := by omega
          simp [Hid, this]
        clear hL2 hL2' hWt hWE
        go_wp2_with fail
        have l1 : 1 < w.heap.size := World.block_lt_of_cell? w _ htab.o1
        refine (bind_cell (w.heap.size + 1 + 1) (w.heap.size + 1 + 1 + 1 + 1 + 1 + 1 + 1) (w.heap.size + 1 + 1 + 1 + 1 + 1 + 1) (w.heap.size + 1 + 1 + 1 + 1) (w.heap.size + 1) (w.heap.size + 1 + 1 + 1 + 1 + 1 + 1 + 1 + 1 + 1 + 1 + 1) (w.heap.size + 1 + 1 + 1 + 1 + 1 + 1 + 1 + 1 + 1) w.heap.size p j I a3 a2 name (.slice (some ⟨w.heap.size + 1 + 1 + 1 + 1 + 1, 0, none⟩) p p) (zInstr p).toList _ (HR.out.unit10 htab hp) h30 h31 ha h21 (by omega) hi1 (cellB HR.out.cu) (cellB HR.out.c) (lookup_one _ _ _ _ _ _ HR.out.s) (cellB HR.out.b) (cellB HR.out.b) (cellB HR.out.cu) ((cellB HR.out.xs).trans HC.out) (keepsB HR.out.below htab.o1 l1)).mono ?_
        rintro r w1 ⟨rfl, hE⟩
        obtain ⟨g, cap, hD⟩ := coded_of HR.out hE
        clear hE HR HC hup k22 z22 k77 k9I k9' z9I k23 hsz
        have d0 := hD.u0; have d5 := hD.u5; have d8 := hD.u8; have df := hD.f0; have lg := hD.lg; have di0 := hD.i0; have di1 := hD.i1; have di2 := hD.i2; have di3 := hD.i3
        have dpu := hD.pu; have dpf := hD.pf; have dc1 := hD.c1; have dc0 := hD.c0
        have dss : w1.cell? ⟨w.heap.size + 1 + 1 + 1 + 1 + 1 + 1 + 1 + 1 + 1 + 1, I, none⟩ = some (.slice none 0 0) := (cellB hD.ss).trans (copies_at hI)
        have l10 : w.heap.size + 1 + 1 + 1 + 1 + 1 + 1 + 1 + 1 + 1 + 1 < w1.heap.size := (Array.getElem?_eq_some_iff.1 hD.ss).1
        have l7 : w.heap.size + 1 + 1 + 1 + 1 + 1 + 1 + 1 < w1.heap.size := by omega
        have l4 : w.heap.size + 1 + 1 + 1 + 1 < w1.heap.size := by omega
        have l3 : w.heap.size + 1 + 1 + 1 < w1.heap.size := by omega
        have l2 : w.heap.size + 1 + 1 < w1.heap.size := by omega
        have l0 : w.heap.size < w1.heap.size := by omega
        have hp0 : (0 : Int) ≤ (p : Int) := Int.natCast_nonneg _
        have HD : Hid (Coded w j p 10 a3 a2 w1 g cap) := hD
        clear hD
        go_wp2
        go_loop [24] (fun k => ∃ t : Nat, t ≤ j ∧ k = .int .i64 t) (fun k => j - (intOf k).toNat)
        case atStart => exact ⟨0, Nat.zero_le _, rfl⟩
        case round =>
          obtain ⟨t, ht, rfl⟩ := hrel
          by_cases htj : t < j
          · have kt : w1.cell? ⟨w.heap.size + 1 + 1 + 1 + 1 + 1 + 1 + 1 + 1 + 1 + 1, t, none⟩ = some (.slice none 0 0) := (cellB HD.out.ss).trans (copies_at htj)
            have ht0 : (0 : Int) ≤ (t : Int) := Int.natCast_nonneg _
            have ht1 : (t : Int) < (j : Int) := by omega
            by_cases hti : t = I
            · subst hti
              have hb : ((t : Int) != (t : Int)) = false := by simp
              go_wp2
              exact ⟨⟨t + 1, by omega, by go_num⟩, by simp [intOf]; omega⟩
            · have hb : ((t : Int) != (I : Int)) = true := by rw [bne_iff_ne]; omega
              go_wp2
              exact ⟨⟨t + 1, by omega, by go_num⟩, by simp [intOf]; omega⟩
          · have hlen := fun o => len_empty (w1.alloc o) w.heap.size (oldB HD.out.g0)
            go_wp2
            go_ret
            exact ⟨rfl, HD.out.below.alloc (Nat.le_of_lt l0) _⟩
end Go.Proofs.YbulkauoyFmt
