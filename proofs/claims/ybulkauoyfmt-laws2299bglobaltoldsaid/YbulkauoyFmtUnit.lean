import Derived.Test.YbulkauoyFmtEmit
import Derived.Test.YbulkauoyFmtLoc
namespace Go.Proofs.YbulkauoyFmt
open Go.ChangeShapes Go.WideShapes Go.ChangeAt Go.RowKit

/-- A compiler at cb whose unit at ub compiles into the function at fb, its code cv (a row of the call's own); 'depth' and 'most' nought, 'entering' e; the opcode table's row at T: one operand, one pop. -/
structure UnitAt (T cb ub fb base n : Nat) (e : Int) (cv : Value) (xs : List Value) (w : World) : Prop where
  c2 : w.cell? ⟨cb, 2, none⟩ = some (.pointer (some ⟨ub, 0, none⟩))
  u0 : w.cell? ⟨ub, 0, none⟩ = some (.pointer (some ⟨fb, 0, none⟩))
  u2 : w.cell? ⟨ub, 2, none⟩ = some (.int .i64 0)
  u3 : w.cell? ⟨ub, 3, none⟩ = some (.int .i64 0)
  u5 : w.cell? ⟨ub, 5, none⟩ = some (.int .i64 e)
  f0 : w.cell? ⟨fb, 0, none⟩ = some cv
  own : w.ownsRow base 49 4 cv n xs
  t0 : w.cell? ⟨2, T, none⟩ = some (.int .i64 1)
  t1 : w.cell? ⟨2, T + 1, none⟩ = some (.int .i64 1)
  t2 : w.cell? ⟨2, T + 2, none⟩ = some (.int .i64 0)
  t3 : w.cell? ⟨2, T + 3, none⟩ = some (.int .i64 0)
  t4 : w.cell? ⟨2, T + 4, none⟩ = some (.int .i64 0)
  t5 : w.cell? ⟨2, T + 5, none⟩ = some (.int .i64 0)
  z2 : w.frozen? ⟨ub, 2, none⟩ = false
  z3 : w.frozen? ⟨ub, 3, none⟩ = false
  z5 : w.frozen? ⟨ub, 5, none⟩ = false
  zf : w.frozen? ⟨fb, 0, none⟩ = false
  nuf : ub ≠ fb
  nu2 : ub ≠ 2
  nf2 : fb ≠ 2
  au : cv.ownBlock ≠ some ub
  af : cv.ownBlock ≠ some fb
  a2 : cv.ownBlock ≠ some 2
  base_le : base ≤ w.heap.size

section
variable {T cb ub fb base n : Nat} {e : Int} {cv : Value} {xs : List Value} {w : World}
theorem UnitAt.lu (h : UnitAt T cb ub fb base n e cv xs w) : ub < w.heap.size := World.block_lt_of_cell? w _ h.u0
theorem UnitAt.lf (h : UnitAt T cb ub fb base n e cv xs w) : fb < w.heap.size := World.block_lt_of_cell? w _ h.f0
theorem UnitAt.lc (h : UnitAt T cb ub fb base n e cv xs w) : cb < w.heap.size := World.block_lt_of_cell? w _ h.c2
theorem UnitAt.l2 (h : UnitAt T cb ub fb base n e cv xs w) : 2 < w.heap.size := World.block_lt_of_cell? w _ h.t0
theorem UnitAt.alloc (h : UnitAt T cb ub fb base n e cv xs w) (o : Obj) : UnitAt T cb ub fb base n e cv xs (w.alloc o) :=
  { c2 := past1 _ h.c2, u0 := past1 _ h.u0, u2 := past1 _ h.u2, u3 := past1 _ h.u3, u5 := past1 _ h.u5, f0 := past1 _ h.f0, own := h.own.alloc _
    t0 := past1 _ h.t0, t1 := past1 _ h.t1, t2 := past1 _ h.t2, t3 := past1 _ h.t3, t4 := past1 _ h.t4, t5 := past1 _ h.t5
    z2 := (pastz1 _ h.lu).trans h.z2, z3 := (pastz1 _ h.lu).trans h.z3, z5 := (pastz1 _ h.lu).trans h.z5, zf := (pastz1 _ h.lf).trans h.zf
    nuf := h.nuf, nu2 := h.nu2, nf2 := h.nf2, au := h.au, af := h.af, a2 := h.a2, base_le := Nat.le_trans h.base_le (by simp) }
theorem UnitAt.drewN (h : UnitAt T cb ub fb base n e cv xs w) (k : Nat) : UnitAt T cb ub fb base n e cv xs (w.drewN k) :=
  { c2 := h.c2, u0 := h.u0, u2 := h.u2, u3 := h.u3, u5 := h.u5, f0 := h.f0, own := h.own, t0 := h.t0, t1 := h.t1, t2 := h.t2, t3 := h.t3, t4 := h.t4, t5 := h.t5
    z2 := h.z2, z3 := h.z3, z5 := h.z5, zf := h.zf, nuf := h.nuf, nu2 := h.nu2, nf2 := h.nf2, au := h.au, af := h.af, a2 := h.a2, base_le := h.base_le }
theorem UnitAt.drew (h : UnitAt T cb ub fb base n e cv xs w) : UnitAt T cb ub fb base n e cv xs w.drew := h.drewN 1

theorem Emitted.of_alloc {news : List Value} {w' : World} {o : Obj} (lu : ub < w.heap.size) (h : Emitted ub fb base n cv xs news (w.alloc o) w') : Emitted ub fb base n cv xs news w w' := by
  obtain ⟨g, cap, h1, h2, h3, h4, h5, h6, h7⟩ := h
  have h3' : cv.ownBlock = some g ∨ w.heap.size ≤ g := by
    rcases h3 with h3 | h3
    · exact .inl h3
    · exact .inr (Nat.le_trans (by simp) h3)
  refine ⟨g, cap, h1, h2, h3', h4, fun o h2 h3 h5' => (h5 o h2 h3 h5').trans (World.cell?_alloc_lt _ _ _ lu), fun o => (h6 o).trans (pastz1 _ lu), ?_⟩
  exact ((Turned.refl _ w).alloc o).andThen h7 fun _ _ h => h

/-- Only draws lie between. -/
theorem Emitted.of_drewN {news : List Value} {w' : World} {k : Nat} (h : Emitted ub fb base n cv xs news (w.drewN k) w') : Emitted ub fb base n cv xs news w w' := by
  obtain ⟨g, cap, h1, h2, h3, h4, h5, h6, h7⟩ := h
  exact ⟨g, cap, h1, h2, h3, h4, h5, h6, ⟨h7.os, h7.tape, h7.output, h7.size, h7.block⟩⟩
end

theorem emitU6 {cb ub fb ob base n : Nat} {e x : Int} {cv : Value} {xs : List Value} {w : World} (h : UnitAt 36 cb ub fb base n e cv xs w) (he0 : 0 ≤ e) (he1 : e ≤ 255) (hx0 : 0 ≤ x) (hx1 : x ≤ 4294967295) (hn : n ≤ 1000) (o0 : w.cell? ⟨ob, 0, none⟩ = some (.int .i64 x)) :
    Calls Ybaf.prog 12 #[.pointer (some ⟨cb, 0, none⟩), .int .u8 6, .slice (some ⟨ob, 0, none⟩) 1 1] w fun r w' => r = .returned (.int .i64 n) ∧ Emitted ub fb base n cv xs (instr 6 e x) w w' :=
  emit6 cb ub fb ob base n e x cv xs w he0 he1 hx0 hx1 hn h.c2 h.u0 h.u2 h.u3 h.u5 h.f0 h.own o0 h.t0 h.t1 h.t2 h.t3 h.t4 h.t5 h.z2 h.z3 h.z5 h.zf h.nuf h.nu2 h.nf2 h.au h.af h.a2 h.base_le
theorem emitU8 {cb ub fb ob base n : Nat} {e x : Int} {cv : Value} {xs : List Value} {w : World} (h : UnitAt 48 cb ub fb base n e cv xs w) (he0 : 0 ≤ e) (he1 : e ≤ 255) (hx0 : 0 ≤ x) (hx1 : x ≤ 4294967295) (hn : n ≤ 1000) (o0 : w.cell? ⟨ob, 0, none⟩ = some (.int .i64 x)) :
    Calls Ybaf.prog 12 #[.pointer (some ⟨cb, 0, none⟩), .int .u8 8, .slice (some ⟨ob, 0, none⟩) 1 1] w fun r w' => r = .returned (.int .i64 n) ∧ Emitted ub fb base n cv xs (instr 8 e x) w w' :=
  emit8 cb ub fb ob base n e x cv xs w he0 he1 hx0 hx1 hn h.c2 h.u0 h.u2 h.u3 h.u5 h.f0 h.own o0 h.t0 h.t1 h.t2 h.t3 h.t4 h.t5 h.z2 h.z3 h.z5 h.zf h.nuf h.nu2 h.nf2 h.au h.af h.a2 h.base_le
theorem emitU10 {cb ub fb ob base n : Nat} {e x : Int} {cv : Value} {xs : List Value} {w : World} (h : UnitAt 60 cb ub fb base n e cv xs w) (he0 : 0 ≤ e) (he1 : e ≤ 255) (hx0 : 0 ≤ x) (hx1 : x ≤ 4294967295) (hn : n ≤ 1000) (o0 : w.cell? ⟨ob, 0, none⟩ = some (.int .i64 x)) :
    Calls Ybaf.prog 12 #[.pointer (some ⟨cb, 0, none⟩), .int .u8 10, .slice (some ⟨ob, 0, none⟩) 1 1] w fun r w' => r = .returned (.int .i64 n) ∧ Emitted ub fb base n cv xs (instr 10 e x) w w' :=
  emit10 cb ub fb ob base n e x cv xs w he0 he1 hx0 hx1 hn h.c2 h.u0 h.u2 h.u3 h.u5 h.f0 h.own o0 h.t0 h.t1 h.t2 h.t3 h.t4 h.t5 h.z2 h.z3 h.z5 h.zf h.nuf h.nu2 h.nf2 h.au h.af h.a2 h.base_le
end Go.Proofs.YbulkauoyFmt
