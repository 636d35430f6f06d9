import Derived.Test.YbulkauoyFmtSlot
import Derived.Test.YbulkauoyFmtUnit
namespace Go.Proofs.YbulkauoyFmt
open Go.ChangeShapes Go.WideShapes Go.ChangeAt Go.RowKit

theorem UnitAt.grew {T cb ub fb base n mb b2 n2 : Nat} {e : Int} {cv nv : Value} {xs : List Value} {D : List ByteArray} {name : ByteArray} {w w1 : World} (h : UnitAt T cb ub fb base n e cv xs w) (hG : Grew cb mb b2 n2 nv D name w w1)
    (nu : ¬ (ub = mb ∨ ub = cb ∨ nv.ownBlock = some ub)) (nf : ¬ (fb = mb ∨ fb = cb ∨ nv.ownBlock = some fb)) (n2' : ¬ (2 = mb ∨ 2 = cb ∨ nv.ownBlock = some 2))
    (nv' : ∀ b, cv.ownBlock = some b → ¬ (b = mb ∨ b = cb ∨ nv.ownBlock = some b)) : UnitAt T cb ub fb base n e cv xs w1 := by
  obtain ⟨g, cap, _, _, _, h4, _, ht⟩ := hG
  have hown : w1.ownsRow base 49 4 cv n xs := by
    obtain ⟨h1, h2⟩ := h.own
    refine ⟨h1, ?_⟩
    rcases h2 with h2 | ⟨g', cap', cur, hv, hb, hh, r⟩
    · exact .inl h2
    · refine .inr ⟨g', cap', cur, hv, hb, ?_, r⟩
      exact (ht.block g' (Array.getElem?_eq_some_iff.1 hh).1 (nv' g' (by rw [hv]; rfl))).trans hh
  exact
  { c2 := (h4 2 (by decide)).trans h.c2, u0 := ht.cell h.u0 nu, u2 := ht.cell h.u2 nu, u3 := ht.cell h.u3 nu, u5 := ht.cell h.u5 nu, f0 := ht.cell h.f0 nf, own := hown
    t0 := ht.cell h.t0 n2', t1 := ht.cell h.t1 n2', t2 := ht.cell h.t2 n2', t3 := ht.cell h.t3 n2', t4 := ht.cell h.t4 n2', t5 := ht.cell h.t5 n2'
    z2 := (ht.frozenEq h.lu nu).trans h.z2, z3 := (ht.frozenEq h.lu nu).trans h.z3, z5 := (ht.frozenEq h.lu nu).trans h.z5, zf := (ht.frozenEq h.lf nf).trans h.zf
    nuf := h.nuf, nu2 := h.nu2, nf2 := h.nf2, au := h.au, af := h.af, a2 := h.a2, base_le := Nat.le_trans h.base_le ht.size }

set_option maxRecDepth 100000 in
set_option maxHeartbeats 1000000 in
/-- 'bind' (function 9) at the top level, the name known. -/
theorem bind_hit (cb ub fb mb base n b2 n2 j : Nat) (e : Int) (name : ByteArray) (cv nv : Value) (xs : List Value) (D : List ByteArray) (w : World) (h : UnitAt 36 cb ub fb base n e cv xs w) (hg : Globs cb mb b2 n2 nv D w) (hj : ix D name 0 = (j : Int)) (hj1 : j ≤ 1000)
    (he0 : 0 ≤ e) (he1 : e ≤ 255) (hn : n ≤ 1000) (u1 : w.cell? ⟨ub, 1, none⟩ = some (.pointer none)) :
    Calls Ybaf.prog 9 #[.pointer (some ⟨cb, 0, none⟩), .string name] w fun r w' => r = .returned (.tuple #[]) ∧ Emitted ub fb base n cv xs (instr 6 e j) w w' := by
  have lu := h.lu
  have c2 := h.c2
  have HJ : Hid (ix D name 0 = (j : Int)) := hj
  clear hj
  go_enter Ybaf.func9, Ybaf.ntmps9
  go_wp2_with fail
  refine (slot_hit hg name HJ.out).mono ?_
  rintro r w' ⟨rfl, rfl⟩
  go_wp2_with fail
  refine (emitU6 (x := (j : Int)) (h.alloc _) he0 he1 (by omega) (by omega) hn ?_).mono ?_
  · go_simp
  rintro r w1 ⟨rfl, hE⟩
  go_wp2
  exact bodyPost_ret (v := .tuple #[]) (by simp [results, Ybaf.results9, go_sem]) rfl ⟨rfl, hE.of_alloc lu⟩

set_option maxRecDepth 100000 in
set_option maxHeartbeats 1000000 in
/-- .. the name new. -/
theorem bind_miss (cb ub fb mb base n b2 n2 : Nat) (e : Int) (name : ByteArray) (cv nv : Value) (xs : List Value) (D : List ByteArray) (w : World) (h : UnitAt 36 cb ub fb base n e cv xs w) (hg : Globs cb mb b2 n2 nv D w) (hj : ix D name 0 = -1) (hn2 : n2 ≤ 1000)
    (he0 : 0 ≤ e) (he1 : e ≤ 255) (hn : n ≤ 1000) (u1 : w.cell? ⟨ub, 1, none⟩ = some (.pointer none))
    (nu : ¬ (ub = mb ∨ ub = cb ∨ nv.ownBlock = some ub)) (nf : ¬ (fb = mb ∨ fb = cb ∨ nv.ownBlock = some fb)) (n2' : ¬ (2 = mb ∨ 2 = cb ∨ nv.ownBlock = some 2))
    (nv' : ∀ b, cv.ownBlock = some b → ¬ (b = mb ∨ b = cb ∨ nv.ownBlock = some b)) :
    Calls Ybaf.prog 9 #[.pointer (some ⟨cb, 0, none⟩), .string name] w fun r w' => r = .returned (.tuple #[]) ∧ ∃ w1, Grew cb mb b2 n2 nv D name w w1 ∧ Emitted ub fb base n cv xs (instr 6 e n2) w1 w' := by
  have lu := h.lu
  have c2 := h.c2
  have HJ : Hid (ix D name 0 = -1) := hj
  clear hj
  go_enter Ybaf.func9, Ybaf.ntmps9
  go_wp2_with fail
  refine (slot_miss hg name HJ.out hn2).mono ?_
  rintro r w1 ⟨rfl, hG⟩
  have h1 := h.grew hG nu nf n2' nv'
  have HGr : Hid (Grew cb mb b2 n2 nv D name w w1) := hG
  clear hG
  go_wp2_with fail
  refine (emitU6 (x := (n2 : Int)) (h1.alloc _) he0 he1 (by omega) (by omega) hn ?_).mono ?_
  · go_simp
  rintro r w2 ⟨rfl, hE⟩
  go_wp2
  exact bodyPost_ret (v := .tuple #[]) (by simp [results, Ybaf.results9, go_sem]) rfl ⟨rfl, w1, HGr.out, hE.of_alloc h1.lu⟩
end Go.Proofs.YbulkauoyFmt
