import Derived.Test.YbulkauoyFmtFrame
namespace Go.Proofs.YbulkauoyFmt
open Go.ChangeShapes Go.WideShapes Go.ChangeAt Go.RowKit

/-! 'make' at the four slice types of the laws, the size a letter: the new block behind a name of its own. -/
/-- n zero instructions. -/
def zInstr (n : Nat) : Array Value := madeCells #[.int .u8 0, .int .i32 0, .int .u32 0, .int .u32 0] (n * 4)
/-- n copies of a one-cell value. -/
def copies (n : Nat) (v : Value) : Array Value := (List.replicate n v).toArray
theorem made_copies (n : Nat) (v : Value) : madeCells #[v] n = copies n v := by
  apply Array.ext'
  simp [copies, toList_madeCells_one]

theorem Ybaf.i49 : (Ybaf.prog.info? 49).map (fun i => (i.zero, i.size, i.bytes)) = some (some (.agg #[.int .u8 0, .int .i32 0, .int .u32 0, .int .u32 0]), 4, 16) := by kernel_rfl
theorem Ybaf.i53 : (Ybaf.prog.info? 53).map (fun i => (i.zero, i.size, i.bytes)) = some (some (.pointer none), 1, 8) := by kernel_rfl
theorem Ybaf.i3 : (Ybaf.prog.info? 3).map (fun i => (i.zero, i.size, i.bytes)) = some (some (.int .i64 0), 1, 8) := by kernel_rfl
theorem Ybaf.i35 : (Ybaf.prog.info? 35).map (fun i => (i.zero, i.size, i.bytes)) = some (some (.slice none 0 0), 1, 24) := by kernel_rfl

theorem make32 (n : Nat) (hn : n ≤ 1000) (w : World) : (Instr.makeSlice 32 (.int .i64 n) (.int .i64 n)).run Ybaf.prog w = .ok (.slice (some ⟨w.heap.size, 0, none⟩) n n) (w.alloc (.cells (zInstr n) 49)) := by
  obtain ⟨i0, hi, hz0, hz1, hz2⟩ := info_parts Ybaf.i49
  have h := run_make (P := Ybaf.prog) w 32 49 i0 _ Ybaf.underlying32 hi hz0 .i64 .i64 (n : Int) (n : Int) (by omega) (Int.le_refl _) (by rw [hz2]; omega) (by omega)
  rw [hz1] at h
  exact h
theorem make39 (n : Nat) (hn : n ≤ 1000) (w : World) : (Instr.makeSlice 39 (.int .i64 n) (.int .i64 n)).run Ybaf.prog w = .ok (.slice (some ⟨w.heap.size, 0, none⟩) n n) (w.alloc (.cells (copies n (.pointer none)) 53)) := by
  obtain ⟨i0, hi, hz0, hz1, hz2⟩ := info_parts Ybaf.i53
  have h := run_make (P := Ybaf.prog) w 39 53 i0 _ Ybaf.underlying39 hi hz0 .i64 .i64 (n : Int) (n : Int) (by omega) (Int.le_refl _) (by rw [hz2]; omega) (by omega)
  rw [hz1, Nat.mul_one] at h
  rw [← made_copies]
  exact h
theorem make35 (n : Nat) (hn : n ≤ 1000) (w : World) : (Instr.makeSlice 35 (.int .i64 n) (.int .i64 n)).run Ybaf.prog w = .ok (.slice (some ⟨w.heap.size, 0, none⟩) n n) (w.alloc (.cells (copies n (.int .i64 0)) 3)) := by
  obtain ⟨i0, hi, hz0, hz1, hz2⟩ := info_parts Ybaf.i3
  have h := run_make (P := Ybaf.prog) w 35 3 i0 _ Ybaf.underlying35 hi hz0 .i64 .i64 (n : Int) (n : Int) (by omega) (Int.le_refl _) (by rw [hz2]; omega) (by omega)
  rw [hz1, Nat.mul_one] at h
  rw [← made_copies]
  exact h
theorem make40 (n : Nat) (hn : n ≤ 1000) (w : World) : (Instr.makeSlice 40 (.int .i64 n) (.int .i64 n)).run Ybaf.prog w = .ok (.slice (some ⟨w.heap.size, 0, none⟩) n n) (w.alloc (.cells (copies n (.slice none 0 0)) 35)) := by
  obtain ⟨i0, hi, hz0, hz1, hz2⟩ := info_parts Ybaf.i35
  have h := run_make (P := Ybaf.prog) w 40 35 i0 _ Ybaf.underlying40 hi hz0 .i64 .i64 (n : Int) (n : Int) (by omega) (Int.le_refl _) (by rw [hz2]; omega) (by omega)
  rw [hz1, Nat.mul_one] at h
  rw [← made_copies]
  exact h
theorem copies_at {n j : Nat} {v : Value} (h : j < n) : (copies n v)[j]? = some v := by simp [copies, h]
theorem copies_size (n : Nat) (v : Value) : (copies n v).size = n := by simp [copies]
theorem zInstr_size (n : Nat) : (zInstr n).size = n * 4 := size_madeCells _ _
end Go.Proofs.YbulkauoyFmt
