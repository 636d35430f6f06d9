import Derived.Test.YbulkauoyRelease
namespace Go.Proofs.Ybulkauoy
open Go.ChangeShapes Go.WideShapes Go.ChangeAt Go.RowKit

/-- The reach of the value that the laws make for 'kind'. -/
def rcOf (kind : Int) (s : ByteArray) (r : Int) : Int :=
  if kind % 5 = 1 then s.size else if kind % 5 = 2 then r else if kind % 5 = 3 then 1152921504606846976 else 0

/-- What 'zzs2299aobj' leaves behind: new blocks alone; the value's reach is rc, also behind a store into an elder block. -/
def Made (v : Value) (rc : Int) (w w' : World) : Prop :=
  (∀ W, Grown W w → Grown W w') ∧ (∀ b o, b < w.heap.size → w'.cell? ⟨b, o, none⟩ = w.cell? ⟨b, o, none⟩) ∧
  (∀ b o, b < w.heap.size → w'.frozen? ⟨b, o, none⟩ = w.frozen? ⟨b, o, none⟩) ∧
  ∀ b o x, b < w.heap.size → Reaches v rc (w'.setCell ⟨b, o, none⟩ x)

theorem cell_kept (w : World) (o : Obj) (b off : Nat) (h : b < w.heap.size) : (w.alloc o).cell? ⟨b, off, none⟩ = w.cell? ⟨b, off, none⟩ :=
  ((Below.refl _ w).alloc (Nat.le_refl _) o).cell (p := ⟨b, off, none⟩) h
theorem frozen_kept (w : World) (o : Obj) (b off : Nat) (h : b < w.heap.size) : (w.alloc o).frozen? ⟨b, off, none⟩ = w.frozen? ⟨b, off, none⟩ :=
  ((Below.refl _ w).alloc (Nat.le_refl _) o).frozen (p := ⟨b, off, none⟩) h
theorem made_alloc {v : Value} {rc : Int} {w : World} {c : Array Value} {t : TypeId} (h : ∀ b o x, b < w.heap.size → Reaches v rc ((w.alloc (.cells c t)).setCell ⟨b, o, none⟩ x)) : Made v rc w (w.alloc (.cells c t)) :=
  ⟨fun _ hW => hW.alloc _ _, fun b o hb => cell_kept w _ b o hb, fun b o hb => frozen_kept w _ b o hb, h⟩
theorem made_same {v : Value} {rc : Int} {w : World} (h : ∀ w', Reaches v rc w') : Made v rc w w :=
  ⟨fun _ hW => hW, fun _ _ _ => rfl, fun _ _ _ => rfl, fun _ _ _ _ => h _⟩
/-- A cell of the newest block, behind a store into an elder one. -/
theorem cell_new_behind (w : World) (c : Array Value) (t : TypeId) (b o off : Nat) (x v : Value) (hb : b < w.heap.size) (hv : c[off]? = some v) :
    ((w.alloc (.cells c t)).setCell ⟨b, o, none⟩ x).cell? ⟨w.heap.size, off, none⟩ = some v := by
  have e : ((w.alloc (.cells c t)).setCell ⟨b, o, none⟩ x).heap[w.heap.size]? = (w.alloc (.cells c t)).heap[w.heap.size]? := Below.heap_setCell _ _ _ _ (by simp; omega)
  rw [World.cell?_of_block (w := w.alloc (.cells c t)) e, World.cell?_alloc_at c t w.heap.size off rfl, hv]

theorem obj_any (kind : Int) (s : ByteArray) (r : Int) (w : World) (h0 : 0 ≤ kind) (h1 : kind ≤ 255) (hs : s.size ≤ maxLen) :
    Calls Yba.prog 7 #[.int .u8 kind, .string s, .int .i64 r] w fun e w' => ∃ v, e = .returned v ∧ Made v (rcOf kind s r) w w' := by
  have hk : kind % 5 = 0 ∨ kind % 5 = 1 ∨ kind % 5 = 2 ∨ kind % 5 = 3 ∨ kind % 5 = 4 := by omega
  rcases hk with hk | hk | hk | hk | hk
  · have hR : Hid (rcOf kind s r = 0) := by simp [Hid, rcOf, hk]
    go_enter Yba.func7, Yba.ntmps7
    go_wp2
    go_ret
    rw [hR.out]
    exact ⟨_, rfl, made_alloc fun b o x hb => reach_integer _ _⟩
  · have hR : Hid (rcOf kind s r = s.size) := by simp [Hid, rcOf, hk]
    go_enter Yba.func7, Yba.ntmps7
    go_wp2
    go_ret
    rw [hR.out]
    exact ⟨_, rfl, made_alloc fun b o x hb => reach_string _ s _ hs (cell_new_behind w _ _ b o 0 x _ hb rfl)⟩
  · have hR : Hid (rcOf kind s r = r) := by simp [Hid, rcOf, hk]
    go_enter Yba.func7, Yba.ntmps7
    go_wp2
    go_ret
    rw [hR.out]
    exact ⟨_, rfl, made_alloc fun b o x hb => reach_array _ 0 r _ (cell_new_behind w _ _ b o 1 x _ hb rfl)⟩
  · have hR : Hid (rcOf kind s r = 1152921504606846976) := by simp [Hid, rcOf, hk]
    go_enter Yba.func7, Yba.ntmps7
    go_wp2
    go_ret
    rw [hR.out]
    exact ⟨_, rfl, made_alloc fun b o x hb => reach_func _ _⟩
  · have hR : Hid (rcOf kind s r = 0) := by simp [Hid, rcOf, hk]
    go_enter Yba.func7, Yba.ntmps7
    go_wp2
    go_ret
    rw [hR.out]
    exact ⟨_, rfl, made_same fun w' => reach_null w'⟩

/-- The law's own reckoning of the reach ('zzs2299areach', function 8). -/
theorem rc_any (kind : Int) (s : ByteArray) (r : Int) (w : World) (h0 : 0 ≤ kind) (h1 : kind ≤ 255) (_hs : s.size ≤ maxLen) :
    Calls Yba.prog 8 #[.int .u8 kind, .string s, .int .i64 r] w fun e w' => e = .returned (.int .i64 (rcOf kind s r)) ∧ w' = w := by
  have hk : kind % 5 = 0 ∨ kind % 5 = 1 ∨ kind % 5 = 2 ∨ kind % 5 = 3 ∨ kind % 5 = 4 := by omega
  rcases hk with hk | hk | hk | hk | hk
  · have hR : Hid (rcOf kind s r = 0) := by simp [Hid, rcOf, hk]
    go_enter Yba.func8, Yba.ntmps8
    go_wp2
    go_ret
    rw [hR.out]
    exact ⟨rfl, rfl⟩
  · have hR : Hid (rcOf kind s r = s.size) := by simp [Hid, rcOf, hk]
    go_enter Yba.func8, Yba.ntmps8
    go_wp2
    go_ret
    rw [hR.out]
    exact ⟨rfl, rfl⟩
  · have hR : Hid (rcOf kind s r = r) := by simp [Hid, rcOf, hk]
    go_enter Yba.func8, Yba.ntmps8
    go_wp2
    go_ret
    rw [hR.out]
    exact ⟨rfl, rfl⟩
  · have hR : Hid (rcOf kind s r = 1152921504606846976) := by simp [Hid, rcOf, hk]
    go_enter Yba.func8, Yba.ntmps8
    go_wp2
    go_ret
    rw [hR.out]
    exact ⟨rfl, rfl⟩
  · have hR : Hid (rcOf kind s r = 0) := by simp [Hid, rcOf, hk]
    go_enter Yba.func8, Yba.ntmps8
    go_wp2
    go_ret
    rw [hR.out]
    exact ⟨rfl, rfl⟩
end Go.Proofs.Ybulkauoy
