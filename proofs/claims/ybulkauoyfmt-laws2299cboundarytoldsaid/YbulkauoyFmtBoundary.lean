import Derived.Test.YbulkauoyFmtBig
import Derived.Test.YbulkauoyFmtIs
import Derived.WideMake
import Derived.Deep.CutRange
import Derived.Deep.RegionWith
namespace Go.Proofs.YbulkauoyFmt
open Go.ChangeShapes Go.WideShapes Go.ChangeAt Go.RowKit Go.Extern.Stop Go.Stop Go.Extern

theorem Ybaf.i159 : (Ybaf.prog.info? 159).map (fun i => (i.zero, i.size, i.bytes)) = some (some (.agg #[.nilIface, .nilIface]), 2, 32) := by kernel_rfl
def zPairs (n : Nat) : Array Value := madeCells #[.nilIface, .nilIface] (n * 2)
theorem make71 (n : Nat) (hn : n ≤ 2000000) (w : World) : (Instr.makeSlice 71 (.int .i64 n) (.int .i64 n)).run Ybaf.prog w = .ok (.slice (some ⟨w.heap.size, 0, none⟩) n n) (w.alloc (.cells (zPairs n) 159)) := by
  obtain ⟨i0, hi, hz0, hz1, hz2⟩ := info_parts Ybaf.i159
  have h := run_make (P := Ybaf.prog) w 71 159 i0 _ Ybaf.underlying71 hi hz0 .i64 .i64 (n : Int) (n : Int) (by omega) (Int.le_refl _) (by rw [hz2]; omega) (by omega)
  rw [hz1] at h
  exact h

set_option maxRecDepth 100000 in
set_option maxHeartbeats 1000000 in
theorem boundary_fits (d : Int) (N : Nat) (w : World) (h0 : 0 ≤ d) (h1 : d ≤ 255) (eN : 1048576 + (d % 3 - 1) = (N : Int)) (hN : N ≤ 1048576) :
    Calls Ybaf.prog 6 #[.int .u8 d] w fun r w' => r = .returned (.bool true) ∧ Below w.heap.size w w' := by
  have mk := make71 N (by omega)
  have hng : ¬ 64 * (N : Int) > 67108864 := by omega
  go_enter Ybaf.func6, Ybaf.ntmps6
  go_wp2_with fail
  refine (check_fits (w.heap.size + 1) N N (some ⟨w.heap.size, 0, none⟩) _ (by omega) ?_).mono ?_
  · go_simp
  rintro r w' ⟨rfl, rfl⟩
  go_wp2
  go_ret
  exact ⟨rfl, ((Below.refl _ _).alloc (Nat.le_refl _) _).alloc (by simp) _⟩

set_option maxRecDepth 100000 in
set_option maxHeartbeats 1000000 in
theorem boundary_big (F : Interp) (d : Int) (N : Nat) (a : Addr) (s : ByteArray) (w : World) (hF : F.answers w.tape) (hg : w.cell? ⟨0, 0, none⟩ = some (.iface 133 (.pointer (some a)))) (hs : w.cell? a = some (.string s)) (h0 : 0 ≤ d) (h1 : d ≤ 255) (eN : 1048576 + (d % 3 - 1) = (N : Int)) (hN : 1048576 < N) :
    Calls Ybaf.prog 6 #[.int .u8 d] w fun r w' => r = .returned (.bool true) ∧ Below w.heap.size w w' := by
  have hN1 : N ≤ 1048577 := by omega
  have mk := make71 N (by omega)
  have hng : 64 * (N : Int) > 67108864 := by omega
  have HF : Hid (F.answers w.tape) := hF
  have l0 : 0 < w.heap.size := World.block_lt_of_cell? w _ hg
  clear hF
  go_enter Ybaf.func6, Ybaf.ntmps6
  go_wp2_with fail
  refine (check_big F (w.heap.size + 1) N N (some ⟨w.heap.size, 0, none⟩) a s _ ?_ ?_ ?_ (by omega) (by omega) ?_).mono ?_
  · exact HF.out
  · exact cell?_alloc_old _ (cell?_alloc_old _ hg)
  · exact cell?_alloc_old _ (cell?_alloc_old _ hs)
  · go_simp
  rintro r w1 ⟨pb, rfl, k1, hb⟩
  have hb1 : Below w.heap.size w w1 := (((Below.refl _ _).alloc (Nat.le_refl _) _).alloc (by simp) _).trans (hb.mono (by simp; omega))
  have k0 : w1.cell? ⟨0, 0, none⟩ = some (.iface 133 (.pointer (some a))) := (hb1.cell (p := ⟨0, 0, none⟩) l0).trans hg
  have HB : Hid (Below w.heap.size w w1) := hb1
  clear hb hb1
  go_wp2_with (go_at_call 11; refine (is_wrap_same pb 0 a _ k1).mono ?_; rintro e w' ⟨rfl, rfl⟩)
  go_ret
  exact ⟨rfl, HB.out⟩
end Go.Proofs.YbulkauoyFmt
