import Derived.Test.YbulkauoyFmtFrame
namespace Go.Proofs.YbulkauoyFmt
open Go.ChangeShapes Go.WideShapes Go.ChangeAt Go.RowKit

/-! 'localLocation' (function 15): the slot's cell where it has moved to one, else the slot itself. -/
theorem loc_cell (ub xb n i : Nat) (c : Int) (w : World) (hc0 : 0 ≤ c) (hi : (i : Int) < (n : Int))
    (u7 : w.cell? ⟨ub, 7, none⟩ = some (.slice (some ⟨xb, 0, none⟩) n n)) (x0 : w.cell? ⟨xb, i, none⟩ = some (.int .i64 c)) :
    Calls Ybaf.prog 15 #[.pointer (some ⟨ub, 0, none⟩), .int .i64 i] w fun r w' =>
      r = .returned (.agg #[.int .u8 1, .int .i64 c, .int .i64 0]) ∧ w' = w.alloc (.cells #[.int .u8 1, .int .i64 c, .int .i64 0] 99) := by
  have lu : ub < w.heap.size := World.block_lt_of_cell? w _ u7
  have lx : xb < w.heap.size := World.block_lt_of_cell? w _ x0
  have hi0 : (0 : Int) ≤ (i : Int) := Int.natCast_nonneg _
  go_enter Ybaf.func15, Ybaf.ntmps15
  go_wp2
  exact bodyPost_ret (v := .agg #[.int .u8 1, .int .i64 c, .int .i64 0]) (by simp [results, Ybaf.results15, go_sem]) rfl ⟨rfl, rfl⟩

theorem loc_local (ub xb n i : Nat) (c : Int) (w : World) (hc0 : c < 0) (hi : (i : Int) < (n : Int))
    (u7 : w.cell? ⟨ub, 7, none⟩ = some (.slice (some ⟨xb, 0, none⟩) n n)) (x0 : w.cell? ⟨xb, i, none⟩ = some (.int .i64 c)) :
    Calls Ybaf.prog 15 #[.pointer (some ⟨ub, 0, none⟩), .int .i64 i] w fun r w' =>
      r = .returned (.agg #[.int .u8 0, .int .i64 i, .int .i64 0]) ∧ w' = w.alloc (.cells #[.int .u8 0, .int .i64 i, .int .i64 0] 99) := by
  have lu : ub < w.heap.size := World.block_lt_of_cell? w _ u7
  have lx : xb < w.heap.size := World.block_lt_of_cell? w _ x0
  have hi0 : (0 : Int) ≤ (i : Int) := Int.natCast_nonneg _
  have hn : ¬ 0 ≤ c := by omega
  go_enter Ybaf.func15, Ybaf.ntmps15
  go_wp2
  exact bodyPost_ret (v := .agg #[.int .u8 0, .int .i64 i, .int .i64 0]) (by simp [results, Ybaf.results15, go_sem]) rfl ⟨rfl, rfl⟩
end Go.Proofs.YbulkauoyFmt
