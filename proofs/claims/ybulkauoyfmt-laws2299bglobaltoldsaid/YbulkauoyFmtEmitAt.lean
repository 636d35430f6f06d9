import Derived.Test.YbulkauoyFmtSited
namespace Go.Proofs.YbulkauoyFmt
open Go.ChangeShapes Go.WideShapes Go.ChangeAt Go.RowKit

set_option maxRecDepth 100000 in
set_option maxHeartbeats 1000000 in
/-- 'emitAt' (function 16) at a location in a cell: one instruction, no site. -/
theorem emitAt10 (cb ub fb base n : Nat) (e x : Int) (cv : Value) (xs : List Value) (w : World) (h : UnitAt 60 cb ub fb base n e cv xs w) (he0 : 0 ≤ e) (he1 : e ≤ 255) (hx0 : 0 ≤ x) (hx1 : x ≤ 4294967295) (hn : n ≤ 1000) :
    Calls Ybaf.prog 16 #[.pointer (some ⟨cb, 0, none⟩), .int .u8 10, .agg #[.int .u8 1, .int .i64 x, .int .i64 0]] w fun r w' => r = .returned (.int .i64 n) ∧ Emitted ub fb base n cv xs (instr 10 e x) w w' := by
  have lu := h.lu
  have lf := h.lf
  go_enter Ybaf.func16, Ybaf.ntmps16
  go_wp2_with fail
  refine (emitU10 ((h.alloc _).alloc _) he0 he1 hx0 hx1 hn ?_).mono ?_
  · go_simp
  rintro r w1 ⟨rfl, hE⟩
  have hE1 : Emitted ub fb base n cv xs (instr 10 e x) w w1 := (hE.of_alloc (by simp; omega)).of_alloc lu
  have kb : w1.cell? ⟨w.heap.size, 0, none⟩ = some (.int .u8 1) := by
    obtain ⟨g, cap, _, _, _, _, _, _, ht⟩ := hE
    refine ht.cell (by go_simp) ?_
    rintro (h1 | h1 | h1)
    · omega
    · omega
    · have := (h.own.lt _ h1).2; omega
  have HE : Hid (Emitted ub fb base n cv xs (instr 10 e x) w w1) := hE1
  clear hE hE1
  go_wp2
  go_ret
  exact ⟨rfl, HE.out⟩

set_option maxRecDepth 100000 in
set_option maxHeartbeats 3200000 in
/-- 'emitAt' at a location in the slot itself: one instruction, and its place noted among the slot's sites. -/
theorem emitAt8 (cb ub fb sb base n m i : Nat) (e : Int) (cv : Value) (xs : List Value) (w : World) (h : UnitAt 48 cb ub fb base n e cv xs w) (he0 : 0 ≤ e) (he1 : e ≤ 255) (hn : n ≤ 1000) (hm : m ≤ 1000)
    (hi : (i : Int) < (m : Int)) (u8 : w.cell? ⟨ub, 8, none⟩ = some (.slice (some ⟨sb, 0, none⟩) m m)) (s0 : w.cell? ⟨sb, i, none⟩ = some (.slice none 0 0)) (zs : w.frozen? ⟨sb, i, none⟩ = false)
    (ncu : cb ≠ ub) (ncf : cb ≠ fb) (ac : cv.ownBlock ≠ some cb) (nsu : sb ≠ ub) (nsf : sb ≠ fb) (asb : cv.ownBlock ≠ some sb) :
    Calls Ybaf.prog 16 #[.pointer (some ⟨cb, 0, none⟩), .int .u8 8, .agg #[.int .u8 0, .int .i64 i, .int .i64 0]] w fun r w' => r = .returned (.int .i64 n) ∧ ∃ w1, Emitted ub fb base n cv xs (instr 8 e i) w w1 ∧ Sited sb i n w1 w' := by
  have lu := h.lu
  have lf := h.lf
  have hi0 : (0 : Int) ≤ (i : Int) := Int.natCast_nonneg _
  go_enter Ybaf.func16, Ybaf.ntmps16
  go_wp2_with fail
  refine (emitU8 ((h.alloc _).alloc _) he0 he1 hi0 (by omega) hn ?_).mono ?_
  · go_simp
  rintro r w1 ⟨rfl, hE⟩
  have hE1 : Emitted ub fb base n cv xs (instr 8 e i) w w1 := (hE.of_alloc (by simp; omega)).of_alloc lu
  have hbox : ∀ j v, ((w.alloc (.cells #[.int .u8 0, .int .i64 i, .int .i64 0] 99)).alloc (.cells #[.int .i64 i] 3)).cell? ⟨w.heap.size, j, none⟩ = some v → w1.cell? ⟨w.heap.size, j, none⟩ = some v := by
    intro j v hv
    obtain ⟨g, cap, _, _, _, _, _, _, ht⟩ := hE
    refine ht.cell hv ?_
    rintro (h1 | h1 | h1)
    · omega
    · omega
    · have := (h.own.lt _ h1).2; omega
  have kb0 : w1.cell? ⟨w.heap.size, 0, none⟩ = some (.int .u8 0) := hbox 0 _ (by go_simp)
  have kb1 : w1.cell? ⟨w.heap.size, 1, none⟩ = some (.int .i64 i) := hbox 1 _ (by go_simp)
  have HE : Hid (Emitted ub fb base n cv xs (instr 8 e i) w w1) := hE1
  have htu : Turned (fun b => b = ub ∨ b = fb ∨ cv.ownBlock = some b) w w1 := by
    obtain ⟨g, cap, _, _, _, _, _, _, ht⟩ := hE1
    exact ht
  have hcell : ∀ o, o ≠ 2 → o ≠ 3 → o ≠ 5 → w1.cell? ⟨ub, o, none⟩ = w.cell? ⟨ub, o, none⟩ := by
    obtain ⟨g, cap, _, _, _, _, hc, _, _⟩ := hE1
    exact hc
  have k2 : w1.cell? ⟨cb, 2, none⟩ = some (.pointer (some ⟨ub, 0, none⟩)) := htu.cell h.c2 (fun hh => hh.elim ncu fun hh => hh.elim ncf ac)
  have k8 : w1.cell? ⟨ub, 8, none⟩ = some (.slice (some ⟨sb, 0, none⟩) m m) := (hcell 8 (by decide) (by decide) (by decide)).trans u8
  have ns : ¬ (sb = ub ∨ sb = fb ∨ cv.ownBlock = some sb) := fun hh => hh.elim nsu fun hh => hh.elim nsf asb
  have ks : w1.cell? ⟨sb, i, none⟩ = some (.slice none 0 0) := htu.cell s0 ns
  have ls : sb < w.heap.size := World.block_lt_of_cell? w _ s0
  have yz : w1.frozen? ⟨sb, i, none⟩ = false := (htu.frozenEq ls ns).trans zs
  have ls1 : sb < w1.heap.size := Nat.lt_of_lt_of_le ls htu.size
  have lu1 : ub < w1.heap.size := Nat.lt_of_lt_of_le lu htu.size
  have lc1 : cb < w1.heap.size := Nat.lt_of_lt_of_le h.lc htu.size
  have lb1 : w.heap.size < w1.heap.size := World.block_lt_of_cell? w1 _ kb0
  have HTU : Hid (Turned (fun b => b = ub ∨ b = fb ∨ cv.ownBlock = some b) w w1) := htu
  have hnc : Builtin.nextslicecap 1 0 = 1 := nextslicecap_zero (by omega)
  have hb3 : Ybaf.t3.bytes = 8 := by kernel_rfl
  clear hE hE1 htu hcell hbox ns s0 u8 zs lu lf ls h asb ac
  go_wp2
  go_region
  go_wp2
  go_ret
  refine ⟨rfl, w1, HE.out, ?_⟩
  exact sited_of ls1 ks
end Go.Proofs.YbulkauoyFmt
