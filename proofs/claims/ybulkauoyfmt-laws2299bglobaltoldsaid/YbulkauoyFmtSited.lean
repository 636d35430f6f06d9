import Derived.Test.YbulkauoyFmtUnit
namespace Go.Proofs.YbulkauoyFmt
open Go.ChangeShapes Go.WideShapes Go.ChangeAt Go.RowKit

/-- Behind the note of a site: the slot's row of sites is a new one that holds n alone; nothing else has turned. -/
def Sited (sb i n : Nat) (w1 w' : World) : Prop :=
  Turned (fun b => b = sb) w1 w' ∧ (∀ j, j ≠ i → w'.cell? ⟨sb, j, none⟩ = w1.cell? ⟨sb, j, none⟩) ∧
    ∃ g cap, w1.heap.size ≤ g ∧ w'.cell? ⟨sb, i, none⟩ = some (.slice (some ⟨g, 0, none⟩) 1 cap) ∧ w'.cell? ⟨g, 0, none⟩ = some (.int .i64 n)

theorem sited_of {sb i n : Nat} {w1 : World} {o1 : Obj} {zs : Array Value} {t : TypeId} {cap : Nat} {old : Value} (ls : sb < w1.heap.size) (ks : w1.cell? ⟨sb, i, none⟩ = some old) :
    Sited sb i n w1 (((w1.setCell ⟨sb, i, none⟩ (.slice (some ⟨w1.heap.size + 1, 0, none⟩) 1 cap)).alloc o1).alloc (.cells (#[.int .i64 n] ++ zs) t)).drew.drew := by
  refine ⟨((((Turned.refl (fun b => b = sb) w1).setCell (fun _ => rfl) _).alloc _).alloc _).drew.drew, fun j hj => ?_, w1.heap.size + 1, cap, by omega, ?_, ?_⟩
  · show (((w1.setCell ⟨sb, i, none⟩ (.slice (some ⟨w1.heap.size + 1, 0, none⟩) 1 cap)).alloc o1).alloc (.cells (#[.int .i64 n] ++ zs) t)).cell? _ = _
    rw [World.cell?_alloc_lt _ _ _ (by simp; omega), World.cell?_alloc_lt _ _ _ (by simp; omega), World.cell?_setCell_other _ _ _ _ (fun h => hj (by simpa using (congrArg Addr.off h).symm))]
  · exact past1 _ (past1 _ (World.cell?_setCell_same _ _ _ ks))
  · show (((w1.setCell ⟨sb, i, none⟩ (.slice (some ⟨w1.heap.size + 1, 0, none⟩) 1 cap)).alloc o1).alloc (.cells (#[.int .i64 n] ++ zs) t)).cell? _ = _
    rw [World.cell?_alloc_at _ _ _ _ (by simp)]
    simp [Array.getElem?_append]

end Go.Proofs.YbulkauoyFmt
