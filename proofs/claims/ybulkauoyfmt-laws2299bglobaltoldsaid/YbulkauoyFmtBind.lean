import Derived.Test.YbulkauoyFmtEmitAt
import Derived.Deep.RegionWith
import Derived.Lib.Builder
namespace Go.Proofs.YbulkauoyFmt
open Go.ChangeShapes Go.WideShapes Go.ChangeAt Go.RowKit

theorem Emitted.of_drew {ub fb base n : Nat} {cv : Value} {xs news : List Value} {w w' : World} (h : Emitted ub fb base n cv xs news w.drew w') : Emitted ub fb base n cv xs news w w' := Emitted.of_drewN (k := 1) h
theorem Ybaf.has44 : ∃ j, Ybaf.prog.info? 44 = some j := by
  have h : (Ybaf.prog.info? 44).isSome = true := by kernel_rfl
  exact Option.isSome_iff_exists.1 h

set_option maxRecDepth 100000 in
set_option maxHeartbeats 1000000 in
/-- 'bind' (function 9) in a function, the slot moved to a cell. -/
theorem bind_cell (cb ub fb pb mb bb xb base n m i : Nat) (e c : Int) (name : ByteArray) (cv : Value) (xs : List Value) (w : World) (h : UnitAt 60 cb ub fb base n e cv xs w) (he0 : 0 ≤ e) (he1 : e ≤ 255) (hc0 : 0 ≤ c) (hc1 : c ≤ 127) (hn : n ≤ 1000)
    (hi : (i : Int) < (m : Int)) (u1 : w.cell? ⟨ub, 1, none⟩ = some (.pointer (some ⟨pb, 0, none⟩))) (c3 : w.cell? ⟨cb, 3, none⟩ = some (.map (some mb)))
    (hl : (Instr.lookup 28 (.map (some mb)) (.string name) false).run Ybaf.prog w = .ok (.pointer (some ⟨bb, 0, none⟩)) w)
    (b1 : w.cell? ⟨bb, 1, none⟩ = some (.pointer (some ⟨ub, 0, none⟩))) (b2 : w.cell? ⟨bb, 2, none⟩ = some (.int .i64 i))
    (u7 : w.cell? ⟨ub, 7, none⟩ = some (.slice (some ⟨xb, 0, none⟩) m m)) (x0 : w.cell? ⟨xb, i, none⟩ = some (.int .i64 c)) (o1 : w.cell? ⟨1, 1, none⟩ = some (.int .u8 10)) :
    Calls Ybaf.prog 9 #[.pointer (some ⟨cb, 0, none⟩), .string name] w fun r w' => r = .returned (.tuple #[]) ∧ Emitted ub fb base n cv xs (instr 10 e c) w w' := by
  have lu := h.lu
  have c2 := h.c2
  have l1 : 1 < w.heap.size := World.block_lt_of_cell? w _ o1
  have l11 : 1 < w.heap.size + 1 := by omega
  obtain ⟨j44, hj44⟩ := Ybaf.has44
  have hneq := fun w => Lib.run_neq_ptr_same (P := Ybaf.prog) w (tp := 27) ⟨ub, 0, none⟩ Ybaf.underlying27 hj44
  clear hj44
  go_enter Ybaf.func9, Ybaf.ntmps9
  go_wp2_with (go_at_call 15; refine (loc_cell ub xb m i c _ hc0 hi ?_ ?_).mono ?_; (go_simp); (go_simp); rintro r w' ⟨rfl, rfl⟩)
  go_region_with (go_at_call 16; refine (emitAt10 cb ub fb base n e c cv xs _ ?_ he0 he1 hc0 (by omega) hn).mono ?_; (exact ((h.alloc _).alloc _).drew); rintro r w' ⟨rfl, hE⟩)
  all_goals
    go_wp2
    go_end0
    exact ⟨rfl, ((hE.of_drew).of_alloc (by simp; omega)).of_alloc lu⟩

set_option maxRecDepth 100000 in
set_option maxHeartbeats 1000000 in
/-- 'bind' in a function, the slot its own place: one site is noted. -/
theorem bind_local (cb ub fb pb mb bb xb sb base n m i : Nat) (e c : Int) (name : ByteArray) (cv : Value) (xs : List Value) (w : World) (h : UnitAt 48 cb ub fb base n e cv xs w) (he0 : 0 ≤ e) (he1 : e ≤ 255) (hc0 : c < 0) (hn : n ≤ 1000) (hm : m ≤ 1000)
    (hi : (i : Int) < (m : Int)) (u1 : w.cell? ⟨ub, 1, none⟩ = some (.pointer (some ⟨pb, 0, none⟩))) (c3 : w.cell? ⟨cb, 3, none⟩ = some (.map (some mb)))
    (hl : (Instr.lookup 28 (.map (some mb)) (.string name) false).run Ybaf.prog w = .ok (.pointer (some ⟨bb, 0, none⟩)) w)
    (b1 : w.cell? ⟨bb, 1, none⟩ = some (.pointer (some ⟨ub, 0, none⟩))) (b2 : w.cell? ⟨bb, 2, none⟩ = some (.int .i64 i))
    (u7 : w.cell? ⟨ub, 7, none⟩ = some (.slice (some ⟨xb, 0, none⟩) m m)) (x0 : w.cell? ⟨xb, i, none⟩ = some (.int .i64 c)) (o1 : w.cell? ⟨1, 0, none⟩ = some (.int .u8 8))
    (u8 : w.cell? ⟨ub, 8, none⟩ = some (.slice (some ⟨sb, 0, none⟩) m m)) (s0 : w.cell? ⟨sb, i, none⟩ = some (.slice none 0 0)) (zs : w.frozen? ⟨sb, i, none⟩ = false)
    (ncu : cb ≠ ub) (ncf : cb ≠ fb) (ac : cv.ownBlock ≠ some cb) (nsu : sb ≠ ub) (nsf : sb ≠ fb) (asb : cv.ownBlock ≠ some sb) :
    Calls Ybaf.prog 9 #[.pointer (some ⟨cb, 0, none⟩), .string name] w fun r w' => r = .returned (.tuple #[]) ∧ ∃ w1, Emitted ub fb base n cv xs (instr 8 e i) w w1 ∧ Sited sb i n w1 w' := by
  have lu := h.lu
  have c2 := h.c2
  have l1 : 1 < w.heap.size := World.block_lt_of_cell? w _ o1
  have l11 : 1 < w.heap.size + 1 := by omega
  have ls : sb < w.heap.size := World.block_lt_of_cell? w _ s0
  obtain ⟨j44, hj44⟩ := Ybaf.has44
  have hneq := fun w => Lib.run_neq_ptr_same (P := Ybaf.prog) w (tp := 27) ⟨ub, 0, none⟩ Ybaf.underlying27 hj44
  clear hj44
  go_enter Ybaf.func9, Ybaf.ntmps9
  go_wp2_with (go_at_call 15; refine (loc_local ub xb m i c _ hc0 hi ?_ ?_).mono ?_; (go_simp); (go_simp); rintro r w' ⟨rfl, rfl⟩)
  go_region_with (go_at_call 16; refine (emitAt8 cb ub fb sb base n m i e cv xs _ ?_ he0 he1 hn hm hi ?_ ?_ ?_ ncu ncf ac nsu nsf asb).mono ?_; (exact ((h.alloc _).alloc _).drew); (exact past1 _ (past1 _ u8)); (exact past1 _ (past1 _ s0)); (exact ((pastz1 _ (by simp; omega)).trans (pastz1 _ ls)).trans zs); rintro r w' ⟨rfl, w1, hE, hS⟩)
  all_goals
    go_wp2
    go_end0
    exact ⟨rfl, _, ((hE.of_drew).of_alloc (by simp; omega)).of_alloc lu, hS⟩
end Go.Proofs.YbulkauoyFmt
