import Derived.Test.YbulkauoyFmtRows
import Derived.WalkKit
import Derived.ProofKit
import Derived.WalkSpells
import Derived.WalkLawsBesides
namespace Go.Proofs.YbulkauoyFmt
open Go.ChangeShapes Go.WideShapes Go.ChangeAt Go.RowKit

/-! 'newInstruction' (function 21) at the three opcodes that the laws meet: 6 (opSetGlobal), 8 (opSetLocal), 10 (opSetCell), each with one operand. -/

set_option maxHeartbeats 400000 in
theorem newInstr6 (e x : Int) (ob : Nat) (w : World) (he0 : 0 ≤ e) (he1 : e ≤ 255) (hx0 : 0 ≤ x) (hx1 : x ≤ 4294967295)
    (ho : w.cell? ⟨ob, 0, none⟩ = some (.int .i64 x)) (ht : w.cell? ⟨2, 36, none⟩ = some (.int .i64 1)) :
    Calls Ybaf.prog 21 #[.int .u8 6, .int .i64 e, .slice (some ⟨ob, 0, none⟩) 1 1] w fun r w' =>
      r = .returned (.agg #[.int .u8 6, .int .i32 e, .int .u32 x, .int .u32 0]) ∧ w' = (w.alloc (.cells #[.int .u8 6, .int .i32 e, .int .u32 x, .int .u32 0] 49)).alloc (.cells #[.int .u8 6, .int .i32 e, .int .u32 x, .int .u32 0] 49) := by
  have hob := World.block_lt_of_cell? w _ ho
  have h2 := World.block_lt_of_cell? w _ ht
  go_enter Ybaf.func21, Ybaf.ntmps21
  go_wp2
  exact bodyPost_ret (v := .agg #[.int .u8 6, .int .i32 e, .int .u32 x, .int .u32 0]) (by simp [results, Ybaf.results21, go_sem]) rfl ⟨rfl, rfl⟩

set_option maxHeartbeats 400000 in
theorem newInstr8 (e x : Int) (ob : Nat) (w : World) (he0 : 0 ≤ e) (he1 : e ≤ 255) (hx0 : 0 ≤ x) (hx1 : x ≤ 4294967295)
    (ho : w.cell? ⟨ob, 0, none⟩ = some (.int .i64 x)) (ht : w.cell? ⟨2, 48, none⟩ = some (.int .i64 1)) :
    Calls Ybaf.prog 21 #[.int .u8 8, .int .i64 e, .slice (some ⟨ob, 0, none⟩) 1 1] w fun r w' =>
      r = .returned (.agg #[.int .u8 8, .int .i32 e, .int .u32 x, .int .u32 0]) ∧ w' = (w.alloc (.cells #[.int .u8 8, .int .i32 e, .int .u32 x, .int .u32 0] 49)).alloc (.cells #[.int .u8 8, .int .i32 e, .int .u32 x, .int .u32 0] 49) := by
  have hob := World.block_lt_of_cell? w _ ho
  have h2 := World.block_lt_of_cell? w _ ht
  go_enter Ybaf.func21, Ybaf.ntmps21
  go_wp2
  exact bodyPost_ret (v := .agg #[.int .u8 8, .int .i32 e, .int .u32 x, .int .u32 0]) (by simp [results, Ybaf.results21, go_sem]) rfl ⟨rfl, rfl⟩

set_option maxHeartbeats 400000 in
theorem newInstr10 (e x : Int) (ob : Nat) (w : World) (he0 : 0 ≤ e) (he1 : e ≤ 255) (hx0 : 0 ≤ x) (hx1 : x ≤ 4294967295)
    (ho : w.cell? ⟨ob, 0, none⟩ = some (.int .i64 x)) (ht : w.cell? ⟨2, 60, none⟩ = some (.int .i64 1)) :
    Calls Ybaf.prog 21 #[.int .u8 10, .int .i64 e, .slice (some ⟨ob, 0, none⟩) 1 1] w fun r w' =>
      r = .returned (.agg #[.int .u8 10, .int .i32 e, .int .u32 x, .int .u32 0]) ∧ w' = (w.alloc (.cells #[.int .u8 10, .int .i32 e, .int .u32 x, .int .u32 0] 49)).alloc (.cells #[.int .u8 10, .int .i32 e, .int .u32 x, .int .u32 0] 49) := by
  have hob := World.block_lt_of_cell? w _ ho
  have h2 := World.block_lt_of_cell? w _ ht
  go_enter Ybaf.func21, Ybaf.ntmps21
  go_wp2
  exact bodyPost_ret (v := .agg #[.int .u8 10, .int .i32 e, .int .u32 x, .int .u32 0]) (by simp [results, Ybaf.results21, go_sem]) rfl ⟨rfl, rfl⟩
end Go.Proofs.YbulkauoyFmt
