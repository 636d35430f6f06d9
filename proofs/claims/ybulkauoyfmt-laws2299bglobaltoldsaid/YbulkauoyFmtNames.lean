import Derived.Test.YbulkauoyFmtBindTop
import Derived.Test.YbulkauoyFmtMake
namespace Go.Proofs.YbulkauoyFmt
open Go.ChangeShapes Go.WideShapes Go.ChangeAt Go.RowKit

/-- The different names among the first k, in the order of their first place. -/
def dd (ss : List ByteArray) : Nat → List ByteArray
  | 0 => []
  | k + 1 => if ix (dd ss k) (ss.getD k ByteArray.empty) 0 < 0 then dd ss k ++ [ss.getD k ByteArray.empty] else dd ss k
theorem dd_new {ss : List ByteArray} {k : Nat} (h : ix (dd ss k) (ss.getD k ByteArray.empty) 0 < 0) : dd ss (k + 1) = dd ss k ++ [ss.getD k ByteArray.empty] := by rw [dd, if_pos h]
theorem dd_old {ss : List ByteArray} {k : Nat} (h : ¬ ix (dd ss k) (ss.getD k ByteArray.empty) 0 < 0) : dd ss (k + 1) = dd ss k := by rw [dd, if_neg h]
theorem dd_le (ss : List ByteArray) (k : Nat) : (dd ss k).length ≤ k := by
  induction k with
  | zero => exact Nat.le_refl _
  | succ k ih =>
    by_cases h : ix (dd ss k) (ss.getD k ByteArray.empty) 0 < 0
    · rw [dd_new h]; simp; omega
    · rw [dd_old h]; omega
theorem ix_neg {l : List ByteArray} {s : ByteArray} (h : ix l s 0 < 0) : ix l s 0 = -1 ∧ s ∉ l := by
  rcases ix_cases l s with h1 | ⟨j, h1, _⟩
  · exact h1
  · omega
theorem dd_nodup (ss : List ByteArray) (k : Nat) : (dd ss k).Nodup := by
  induction k with
  | zero => exact List.nodup_nil
  | succ k ih =>
    by_cases h : ix (dd ss k) (ss.getD k ByteArray.empty) 0 < 0
    · rw [dd_new h, List.nodup_append]
      refine ⟨ih, by simp, fun a ha b hb => ?_⟩
      simp only [List.mem_singleton] at hb
      subst hb
      exact fun e => (ix_neg h).2 (e ▸ ha)
    · rw [dd_old h]; exact ih

theorem take_getD {D : List ByteArray} {t : Nat} (h : t < D.length) : D.take (t + 1) = D.take t ++ [D.getD t ByteArray.empty] := by
  rw [List.take_succ_eq_append_getElem h]
  simp [h]
theorem ix_take {D : List ByteArray} (hD : D.Nodup) {t : Nat} (h : t < D.length) : ix (D.take t) (D.getD t ByteArray.empty) 0 = -1 := by
  refine ix_none ?_
  have h1 : (D.take (t + 1)).Nodup := hD.sublist (List.take_sublist _ _)
  rw [take_getD h, List.nodup_append] at h1
  exact fun hm => h1.2.2 _ hm _ (by simp) rfl
theorem getD_some {D : List ByteArray} {t : Nat} (h : t < D.length) : D[t]? = some (D.getD t ByteArray.empty) := by
  rw [List.getElem?_eq_getElem h]
  simp [h]

theorem make22 (n : Nat) (hn : n ≤ 1000) (w : World) : (Instr.makeSlice 22 (.int .i64 0) (.int .i64 n)).run Ybaf.prog w = .ok (.slice (some ⟨w.heap.size, 0, none⟩) 0 n) (w.alloc (.cells (copies n (.string ⟨#[]⟩)) 9)) := by
  obtain ⟨i0, hi, hz0, hz1, hz2⟩ := info_parts Ybaf.i9
  have h := run_make (P := Ybaf.prog) w 22 9 i0 _ Ybaf.underlying22 hi hz0 .i64 .i64 (0 : Int) (n : Int) (Int.le_refl _) (by omega) (by rw [hz2]; omega) (by omega)
  rw [hz1, Nat.mul_one] at h
  rw [← made_copies]
  exact h
end Go.Proofs.YbulkauoyFmt
