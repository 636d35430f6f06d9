import Derived.Test.YbulkauoyFmtFrame
import Derived.Deep.RegionLaw
import Derived.Deep.CutRange
import Derived.BigRegion
namespace Go.Proofs.YbulkauoyFmt
open Go.ChangeShapes Go.WideShapes Go.ChangeAt Go.RowKit

theorem Ybaf.info49 : (Ybaf.prog.info? 49).map (fun i => (i.zero, i.size, i.bytes)) = some (some (.agg #[.int .u8 0, .int .i32 0, .int .u32 0, .int .u32 0]), 4, 16) := by kernel_rfl

/-- The cells of an instruction. -/
def instr (op e x : Int) : List Value := [.int .u8 op, .int .i32 e, .int .u32 x, .int .u32 0]

/-- Behind the append of 'emit': the new code lies in the old row or in a new block; nothing else has turned but the field 'code'. -/
def Appended (fb base n : Nat) (cv : Value) (xs news : List Value) (w wx : World) : Prop :=
  ∃ g cap, wx.cell? ⟨fb, 0, none⟩ = some (.slice (some ⟨g, 0, none⟩) (n + 1) cap) ∧ wx.ownsRow base 49 4 (.slice (some ⟨g, 0, none⟩) (n + 1) cap) (n + 1) (xs ++ news) ∧
    (cv.ownBlock = some g ∨ w.heap.size ≤ g) ∧ Turned (fun b => b = fb ∨ cv.ownBlock = some b) w wx

theorem appended_of {fb base n : Nat} {cv : Value} {xs news : List Value} {w w1 : World} {o1 o2 o3 : Obj} {g cap old : Nat} (lf : fb < w.heap.size) (af : cv.ownBlock ≠ some fb)
    (hown : w1.ownsRow base 49 4 (.slice (some ⟨g, 0, none⟩) (n + 1) cap) (n + 1) (xs ++ news)) (hgrow : (((w.alloc o1).alloc o2).alloc o3).drew.grownBy w1 cv.ownBlock)
    (hat : cv.ownBlock = some g ∨ g = old) (ho : w.heap.size < old) {v0 : Value} (k0 : w1.cell? ⟨fb, 0, none⟩ = some v0) :
    Appended fb base n cv xs news w (w1.setCell ⟨fb, 0, none⟩ (.slice (some ⟨g, 0, none⟩) (n + 1) cap)) := by
  have hne : (Value.slice (some ⟨g, 0, none⟩) (n + 1) cap).ownBlock ≠ some fb := by
    intro h
    have hg : g = fb := by simpa [Value.ownBlock] using h
    rcases hat with h1 | h1
    · exact af (hg ▸ h1)
    · omega
  refine ⟨g, cap, ?_, ownsRow_setCell_other hown hne _, ?_, ?_⟩
  · exact World.cell?_setCell_same w1 _ _ (by rw [k0])
  · rcases hat with h1 | h1
    · exact .inl h1
    · exact .inr (by omega)
  · exact (((((Turned.refl _ w).alloc o1).alloc o2).alloc o3).drew.grown hgrow fun b _ h => .inr h).setCell (fun _ => .inl rfl) _

/-- Behind 'emit': the code has one instruction more; 'entering' is 0; of the unit nothing else has turned but 'depth' and 'most'. -/
def Emitted (ub fb base n : Nat) (cv : Value) (xs news : List Value) (w w' : World) : Prop :=
  ∃ g cap, w'.cell? ⟨fb, 0, none⟩ = some (.slice (some ⟨g, 0, none⟩) (n + 1) cap) ∧ w'.ownsRow base 49 4 (.slice (some ⟨g, 0, none⟩) (n + 1) cap) (n + 1) (xs ++ news) ∧
    (cv.ownBlock = some g ∨ w.heap.size ≤ g) ∧ w'.cell? ⟨ub, 5, none⟩ = some (.int .i64 0) ∧ (∀ o, o ≠ 2 → o ≠ 3 → o ≠ 5 → w'.cell? ⟨ub, o, none⟩ = w.cell? ⟨ub, o, none⟩) ∧
    (∀ o, w'.frozen? ⟨ub, o, none⟩ = w.frozen? ⟨ub, o, none⟩) ∧ Turned (fun b => b = ub ∨ b = fb ∨ cv.ownBlock = some b) w w'

theorem emitted_of {ub fb base n : Nat} {cv : Value} {xs news : List Value} {w wc : World} {o1 : Obj} {g cap : Nat} {x5 x2 x3 v5 : Value} (lu : ub < w.heap.size) (nuf : ub ≠ fb) (au : cv.ownBlock ≠ some ub)
    (kf : wc.cell? ⟨fb, 0, none⟩ = some (.slice (some ⟨g, 0, none⟩) (n + 1) cap)) (hown : wc.ownsRow base 49 4 (.slice (some ⟨g, 0, none⟩) (n + 1) cap) (n + 1) (xs ++ news))
    (hat : cv.ownBlock = some g ∨ w.heap.size ≤ g) (htu : Turned (fun b => b = fb ∨ cv.ownBlock = some b) w wc) (k5 : wc.cell? ⟨ub, 5, none⟩ = some v5) (h5 : x5 = .int .i64 0) :
    Emitted ub fb base n cv xs news w (((((wc.setCell ⟨ub, 5, none⟩ x5).setCell ⟨ub, 2, none⟩ x2).setCell ⟨ub, 3, none⟩ x3).alloc o1).drew.drew) := by
  subst h5
  have hne : (Value.slice (some ⟨g, 0, none⟩) (n + 1) cap).ownBlock ≠ some ub := by
    intro h
    have hg : g = ub := by simpa [Value.ownBlock] using h
    rcases hat with h1 | h1
    · exact au (hg ▸ h1)
    · omega
  have nu : ¬ (ub = fb ∨ cv.ownBlock = some ub) := fun h => h.elim nuf au
  have mu : ub < wc.heap.size := Nat.lt_of_lt_of_le lu htu.size
  have hsz : (((wc.setCell ⟨ub, 5, none⟩ (.int .i64 0)).setCell ⟨ub, 2, none⟩ x2).setCell ⟨ub, 3, none⟩ x3).heap.size = wc.heap.size := by simp
  refine ⟨g, cap, ?_, ?_, hat, ?_, ?_, ?_, ?_⟩
  · show ((((wc.setCell ⟨ub, 5, none⟩ (.int .i64 0)).setCell ⟨ub, 2, none⟩ x2).setCell ⟨ub, 3, none⟩ x3).alloc o1).cell? _ = _
    refine past1 _ ?_
    rw [World.cell?_setCell_other _ _ _ _ (by simp), World.cell?_setCell_other _ _ _ _ (by simp), World.cell?_setCell_other _ _ _ _ (by simp), kf]
  · exact (ownsRow_setCell_other (ownsRow_setCell_other (ownsRow_setCell_other hown hne _) hne _) hne _).alloc _
  · show ((((wc.setCell ⟨ub, 5, none⟩ (.int .i64 0)).setCell ⟨ub, 2, none⟩ x2).setCell ⟨ub, 3, none⟩ x3).alloc o1).cell? _ = _
    refine past1 _ ?_
    rw [World.cell?_setCell_other _ _ _ _ (by simp), World.cell?_setCell_other _ _ _ _ (by simp)]
    exact World.cell?_setCell_same _ _ _ k5
  · intro o h2 h3 h5
    show ((((wc.setCell ⟨ub, 5, none⟩ (.int .i64 0)).setCell ⟨ub, 2, none⟩ x2).setCell ⟨ub, 3, none⟩ x3).alloc o1).cell? _ = _
    rw [World.cell?_alloc_lt _ _ _ (by simp; omega), World.cell?_setCell_other _ _ _ _ (by first | (simp; done) | (simp; omega)), World.cell?_setCell_other _ _ _ _ (by first | (simp; done) | (simp; omega)), World.cell?_setCell_other _ _ _ _ (by first | (simp; done) | (simp; omega))]
    exact htu.cellEq lu nu
  · intro o
    show ((((wc.setCell ⟨ub, 5, none⟩ (.int .i64 0)).setCell ⟨ub, 2, none⟩ x2).setCell ⟨ub, 3, none⟩ x3).alloc o1).frozen? _ = _
    rw [pastz1 _ (by simp; omega), World.frozen?_setCell, World.frozen?_setCell, World.frozen?_setCell]
    exact htu.frozenEq lu nu
  · exact ((((htu.mono fun b _ h => .inr h).setCell (fun _ => .inl rfl) _).setCell (fun _ => .inl rfl) _).setCell (fun _ => .inl rfl) _).alloc o1 |>.drew.drew

set_option maxRecDepth 100000 in
set_option maxHeartbeats 3200000 in
theorem emit6 (cb ub fb ob base n : Nat) (e x : Int) (cv : Value) (xs : List Value) (w : World) (he0 : 0 ≤ e) (he1 : e ≤ 255) (hx0 : 0 ≤ x) (hx1 : x ≤ 4294967295) (hn : n ≤ 1000)
    (c2 : w.cell? ⟨cb, 2, none⟩ = some (.pointer (some ⟨ub, 0, none⟩))) (u0 : w.cell? ⟨ub, 0, none⟩ = some (.pointer (some ⟨fb, 0, none⟩)))
    (u2 : w.cell? ⟨ub, 2, none⟩ = some (.int .i64 0)) (u3 : w.cell? ⟨ub, 3, none⟩ = some (.int .i64 0)) (u5 : w.cell? ⟨ub, 5, none⟩ = some (.int .i64 e))
    (f0 : w.cell? ⟨fb, 0, none⟩ = some cv) (hown : w.ownsRow base 49 4 cv n xs) (o0 : w.cell? ⟨ob, 0, none⟩ = some (.int .i64 x))
    (t0 : w.cell? ⟨2, 36, none⟩ = some (.int .i64 1)) (t1 : w.cell? ⟨2, 37, none⟩ = some (.int .i64 1)) (t2 : w.cell? ⟨2, 38, none⟩ = some (.int .i64 0))
    (t3 : w.cell? ⟨2, 39, none⟩ = some (.int .i64 0)) (t4 : w.cell? ⟨2, 40, none⟩ = some (.int .i64 0)) (t5 : w.cell? ⟨2, 41, none⟩ = some (.int .i64 0))
    (z2 : w.frozen? ⟨ub, 2, none⟩ = false) (z3 : w.frozen? ⟨ub, 3, none⟩ = false) (z5 : w.frozen? ⟨ub, 5, none⟩ = false) (zf : w.frozen? ⟨fb, 0, none⟩ = false)
    (nuf : ub ≠ fb) (nu2 : ub ≠ 2) (nf2 : fb ≠ 2) (au : cv.ownBlock ≠ some ub) (af : cv.ownBlock ≠ some fb) (a2 : cv.ownBlock ≠ some 2) (hbase : base ≤ w.heap.size) :
    Calls Ybaf.prog 12 #[.pointer (some ⟨cb, 0, none⟩), .int .u8 6, .slice (some ⟨ob, 0, none⟩) 1 1] w fun r w' => r = .returned (.int .i64 n) ∧ Emitted ub fb base n cv xs (instr 6 e x) w w' := by
  obtain ⟨i0, hi0, hz0, hz1, hz2⟩ := info_parts Ybaf.info49
  have lu : ub < w.heap.size := World.block_lt_of_cell? w _ u0
  have lf : fb < w.heap.size := World.block_lt_of_cell? w _ f0
  have lo : ob < w.heap.size := World.block_lt_of_cell? w _ o0
  have l2 : 2 < w.heap.size := World.block_lt_of_cell? w _ t0
  have lf1 : fb < w.heap.size + 1 := by omega
  have lf2 : fb < w.heap.size + 1 + 1 := by omega
  have lu1 : ub < w.heap.size + 1 := by omega
  have lu2 : ub < w.heap.size + 1 + 1 := by omega
  have hcv : ∃ ad cap, cv = .slice ad n cap := by
    rcases hown.2 with ⟨rfl, rfl⟩ | ⟨g, cap, cur, rfl, _⟩
    · exact ⟨none, 0, rfl⟩
    · exact ⟨_, cap, rfl⟩
  obtain ⟨ad, cap, rfl⟩ := hcv
  go_enter Ybaf.func12, Ybaf.ntmps12
  go_upto_region 4 with fail
  go_cut [24] from 24 to 39 (fun _ wx => Appended fb base n (.slice ad n cap) xs (instr 6 e x) w wx)
  case first =>
    go_region_law (first
      | (refine step_append_lies _ (by rfl) _ _ _ (by rfl) base 49 i0 _ 4 16 Ybaf.underlying32 hi0 hz0 hz1 hz2 rfl (by omega) (.slice ad n cap) n xs (by rfl) (((hown.alloc _).alloc _).alloc _).drew ⟨w.heap.size + 1 + 1, 0, none⟩ 1 1 [.int .u8 6, .int .i32 e, .int .u32 x, .int .u32 0] (by rfl) (by rfl) (World.news_of_block (cs := #[.int .u8 6, .int .i32 e, .int .u32 x, .int .u32 0]) (t := 49) (fr := (0, 0)) (new3 _ _ _ _)) (by simp [Value.oneCell']) (by omega) (by unfold maxLen; omega) (by omega) (by simp; omega) (w.heap.size + 1 + 1 + 1) (by simp) ?_; intro g cap1 w1 hown1 hgrow hat hlt; have k0 := (hgrow.cell_far ⟨fb, 0, none⟩ (by simp; omega) (Ne.symm af)).trans (past3 _ _ _ f0); have k1 := (hgrow.frozen_far ⟨fb, 0, none⟩ (by simp; omega) (Ne.symm af)).trans ((pastz3 _ _ _ lf).trans zf))
      | (go_simp; go_at_call 21; refine (newInstr6 e x ob _ he0 he1 hx0 hx1 ?_ ?_).mono ?_; (go_simp); (go_simp); rintro r w' ⟨rfl, rfl⟩; dsimp only))
    all_goals
      go_wp2_with fail
      go_meet
      case rel =>
        exact appended_of lf af hown1 hgrow hat (by omega) k0
  case rest =>
    obtain ⟨g, cap1, kf, hown1, hat, htu⟩ := hcut
    have nu : ¬ (ub = fb ∨ (Value.slice ad n cap).ownBlock = some ub) := fun h => h.elim nuf au
    have n2 : ¬ (2 = fb ∨ (Value.slice ad n cap).ownBlock = some 2) := fun h => h.elim (fun e => nf2 e.symm) a2
    have v2 := htu.cell u2 nu; have v3 := htu.cell u3 nu; have v5 := htu.cell u5 nu
    have s0 := htu.cell t0 n2; have s1 := htu.cell t1 n2; have s2 := htu.cell t2 n2; have s3 := htu.cell t3 n2; have s4 := htu.cell t4 n2; have s5 := htu.cell t5 n2
    have y2 := (htu.frozenEq (o := 2) lu nu).trans z2; have y3 := (htu.frozenEq (o := 3) lu nu).trans z3; have y5 := (htu.frozenEq (o := 5) lu nu).trans z5
    have mu : ub < wc.heap.size := Nat.lt_of_lt_of_le lu htu.size
    have m2 : 2 < wc.heap.size := Nat.lt_of_lt_of_le l2 htu.size
    have n2u : 2 ≠ ub := Ne.symm nu2
    have HT : Hid (Turned (fun b => b = fb ∨ (Value.slice ad n cap).ownBlock = some b) w wc) := htu
    have HO : Hid (wc.ownsRow base 49 4 (.slice (some ⟨g, 0, none⟩) (n + 1) cap1) (n + 1) (xs ++ instr 6 e x)) := hown1
    have HA : Hid ((Value.slice ad n cap).ownBlock = some g ∨ w.heap.size ≤ g) := hat
    have HU : Hid ((Value.slice ad n cap).ownBlock ≠ some ub) := au
    clear htu hown1 hat hown u2 u3 u5 t0 t1 t2 t3 t4 t5 z2 z3 z5 zf f0 o0 c2 u0 hi0 hz0 hz1 hz2 au af a2 nu n2
    go_wp2
    go_region
    go_wp2
    go_region
    go_wp2
    go_ret
    exact ⟨rfl, emitted_of lu nuf HU.out kf HO.out HA.out HT.out v5 rfl⟩

set_option maxRecDepth 100000 in
set_option maxHeartbeats 3200000 in
theorem emit8 (cb ub fb ob base n : Nat) (e x : Int) (cv : Value) (xs : List Value) (w : World) (he0 : 0 ≤ e) (he1 : e ≤ 255) (hx0 : 0 ≤ x) (hx1 : x ≤ 4294967295) (hn : n ≤ 1000)
    (c2 : w.cell? ⟨cb, 2, none⟩ = some (.pointer (some ⟨ub, 0, none⟩))) (u0 : w.cell? ⟨ub, 0, none⟩ = some (.pointer (some ⟨fb, 0, none⟩)))
    (u2 : w.cell? ⟨ub, 2, none⟩ = some (.int .i64 0)) (u3 : w.cell? ⟨ub, 3, none⟩ = some (.int .i64 0)) (u5 : w.cell? ⟨ub, 5, none⟩ = some (.int .i64 e))
    (f0 : w.cell? ⟨fb, 0, none⟩ = some cv) (hown : w.ownsRow base 49 4 cv n xs) (o0 : w.cell? ⟨ob, 0, none⟩ = some (.int .i64 x))
    (t0 : w.cell? ⟨2, 48, none⟩ = some (.int .i64 1)) (t1 : w.cell? ⟨2, 49, none⟩ = some (.int .i64 1)) (t2 : w.cell? ⟨2, 50, none⟩ = some (.int .i64 0))
    (t3 : w.cell? ⟨2, 51, none⟩ = some (.int .i64 0)) (t4 : w.cell? ⟨2, 52, none⟩ = some (.int .i64 0)) (t5 : w.cell? ⟨2, 53, none⟩ = some (.int .i64 0))
    (z2 : w.frozen? ⟨ub, 2, none⟩ = false) (z3 : w.frozen? ⟨ub, 3, none⟩ = false) (z5 : w.frozen? ⟨ub, 5, none⟩ = false) (zf : w.frozen? ⟨fb, 0, none⟩ = false)
    (nuf : ub ≠ fb) (nu2 : ub ≠ 2) (nf2 : fb ≠ 2) (au : cv.ownBlock ≠ some ub) (af : cv.ownBlock ≠ some fb) (a2 : cv.ownBlock ≠ some 2) (hbase : base ≤ w.heap.size) :
    Calls Ybaf.prog 12 #[.pointer (some ⟨cb, 0, none⟩), .int .u8 8, .slice (some ⟨ob, 0, none⟩) 1 1] w fun r w' => r = .returned (.int .i64 n) ∧ Emitted ub fb base n cv xs (instr 8 e x) w w' := by
  obtain ⟨i0, hi0, hz0, hz1, hz2⟩ := info_parts Ybaf.info49
  have lu : ub < w.heap.size := World.block_lt_of_cell? w _ u0
  have lf : fb < w.heap.size := World.block_lt_of_cell? w _ f0
  have lo : ob < w.heap.size := World.block_lt_of_cell? w _ o0
  have l2 : 2 < w.heap.size := World.block_lt_of_cell? w _ t0
  have lf1 : fb < w.heap.size + 1 := by omega
  have lf2 : fb < w.heap.size + 1 + 1 := by omega
  have lu1 : ub < w.heap.size + 1 := by omega
  have lu2 : ub < w.heap.size + 1 + 1 := by omega
  have hcv : ∃ ad cap, cv = .slice ad n cap := by
    rcases hown.2 with ⟨rfl, rfl⟩ | ⟨g, cap, cur, rfl, _⟩
    · exact ⟨none, 0, rfl⟩
    · exact ⟨_, cap, rfl⟩
  obtain ⟨ad, cap, rfl⟩ := hcv
  go_enter Ybaf.func12, Ybaf.ntmps12
  go_upto_region 4 with fail
  go_cut [24] from 24 to 39 (fun _ wx => Appended fb base n (.slice ad n cap) xs (instr 8 e x) w wx)
  case first =>
    go_region_law (first
      | (refine step_append_lies _ (by rfl) _ _ _ (by rfl) base 49 i0 _ 4 16 Ybaf.underlying32 hi0 hz0 hz1 hz2 rfl (by omega) (.slice ad n cap) n xs (by rfl) (((hown.alloc _).alloc _).alloc _).drew ⟨w.heap.size + 1 + 1, 0, none⟩ 1 1 [.int .u8 8, .int .i32 e, .int .u32 x, .int .u32 0] (by rfl) (by rfl) (World.news_of_block (cs := #[.int .u8 8, .int .i32 e, .int .u32 x, .int .u32 0]) (t := 49) (fr := (0, 0)) (new3 _ _ _ _)) (by simp [Value.oneCell']) (by omega) (by unfold maxLen; omega) (by omega) (by simp; omega) (w.heap.size + 1 + 1 + 1) (by simp) ?_; intro g cap1 w1 hown1 hgrow hat hlt; have k0 := (hgrow.cell_far ⟨fb, 0, none⟩ (by simp; omega) (Ne.symm af)).trans (past3 _ _ _ f0); have k1 := (hgrow.frozen_far ⟨fb, 0, none⟩ (by simp; omega) (Ne.symm af)).trans ((pastz3 _ _ _ lf).trans zf))
      | (go_simp; go_at_call 21; refine (newInstr8 e x ob _ he0 he1 hx0 hx1 ?_ ?_).mono ?_; (go_simp); (go_simp); rintro r w' ⟨rfl, rfl⟩; dsimp only))
    all_goals
      go_wp2_with fail
      go_meet
      case rel =>
        exact appended_of lf af hown1 hgrow hat (by omega) k0
  case rest =>
    obtain ⟨g, cap1, kf, hown1, hat, htu⟩ := hcut
    have nu : ¬ (ub = fb ∨ (Value.slice ad n cap).ownBlock = some ub) := fun h => h.elim nuf au
    have n2 : ¬ (2 = fb ∨ (Value.slice ad n cap).ownBlock = some 2) := fun h => h.elim (fun e => nf2 e.symm) a2
    have v2 := htu.cell u2 nu; have v3 := htu.cell u3 nu; have v5 := htu.cell u5 nu
    have s0 := htu.cell t0 n2; have s1 := htu.cell t1 n2; have s2 := htu.cell t2 n2; have s3 := htu.cell t3 n2; have s4 := htu.cell t4 n2; have s5 := htu.cell t5 n2
    have y2 := (htu.frozenEq (o := 2) lu nu).trans z2; have y3 := (htu.frozenEq (o := 3) lu nu).trans z3; have y5 := (htu.frozenEq (o := 5) lu nu).trans z5
    have mu : ub < wc.heap.size := Nat.lt_of_lt_of_le lu htu.size
    have m2 : 2 < wc.heap.size := Nat.lt_of_lt_of_le l2 htu.size
    have n2u : 2 ≠ ub := Ne.symm nu2
    have HT : Hid (Turned (fun b => b = fb ∨ (Value.slice ad n cap).ownBlock = some b) w wc) := htu
    have HO : Hid (wc.ownsRow base 49 4 (.slice (some ⟨g, 0, none⟩) (n + 1) cap1) (n + 1) (xs ++ instr 8 e x)) := hown1
    have HA : Hid ((Value.slice ad n cap).ownBlock = some g ∨ w.heap.size ≤ g) := hat
    have HU : Hid ((Value.slice ad n cap).ownBlock ≠ some ub) := au
    clear htu hown1 hat hown u2 u3 u5 t0 t1 t2 t3 t4 t5 z2 z3 z5 zf f0 o0 c2 u0 hi0 hz0 hz1 hz2 au af a2 nu n2
    go_wp2
    go_region
    go_wp2
    go_region
    go_wp2
    go_ret
    exact ⟨rfl, emitted_of lu nuf HU.out kf HO.out HA.out HT.out v5 rfl⟩

set_option maxRecDepth 100000 in
set_option maxHeartbeats 3200000 in
theorem emit10 (cb ub fb ob base n : Nat) (e x : Int) (cv : Value) (xs : List Value) (w : World) (he0 : 0 ≤ e) (he1 : e ≤ 255) (hx0 : 0 ≤ x) (hx1 : x ≤ 4294967295) (hn : n ≤ 1000)
    (c2 : w.cell? ⟨cb, 2, none⟩ = some (.pointer (some ⟨ub, 0, none⟩))) (u0 : w.cell? ⟨ub, 0, none⟩ = some (.pointer (some ⟨fb, 0, none⟩)))
    (u2 : w.cell? ⟨ub, 2, none⟩ = some (.int .i64 0)) (u3 : w.cell? ⟨ub, 3, none⟩ = some (.int .i64 0)) (u5 : w.cell? ⟨ub, 5, none⟩ = some (.int .i64 e))
    (f0 : w.cell? ⟨fb, 0, none⟩ = some cv) (hown : w.ownsRow base 49 4 cv n xs) (o0 : w.cell? ⟨ob, 0, none⟩ = some (.int .i64 x))
    (t0 : w.cell? ⟨2, 60, none⟩ = some (.int .i64 1)) (t1 : w.cell? ⟨2, 61, none⟩ = some (.int .i64 1)) (t2 : w.cell? ⟨2, 62, none⟩ = some (.int .i64 0))
    (t3 : w.cell? ⟨2, 63, none⟩ = some (.int .i64 0)) (t4 : w.cell? ⟨2, 64, none⟩ = some (.int .i64 0)) (t5 : w.cell? ⟨2, 65, none⟩ = some (.int .i64 0))
    (z2 : w.frozen? ⟨ub, 2, none⟩ = false) (z3 : w.frozen? ⟨ub, 3, none⟩ = false) (z5 : w.frozen? ⟨ub, 5, none⟩ = false) (zf : w.frozen? ⟨fb, 0, none⟩ = false)
    (nuf : ub ≠ fb) (nu2 : ub ≠ 2) (nf2 : fb ≠ 2) (au : cv.ownBlock ≠ some ub) (af : cv.ownBlock ≠ some fb) (a2 : cv.ownBlock ≠ some 2) (hbase : base ≤ w.heap.size) :
    Calls Ybaf.prog 12 #[.pointer (some ⟨cb, 0, none⟩), .int .u8 10, .slice (some ⟨ob, 0, none⟩) 1 1] w fun r w' => r = .returned (.int .i64 n) ∧ Emitted ub fb base n cv xs (instr 10 e x) w w' := by
  obtain ⟨i0, hi0, hz0, hz1, hz2⟩ := info_parts Ybaf.info49
  have lu : ub < w.heap.size := World.block_lt_of_cell? w _ u0
  have lf : fb < w.heap.size := World.block_lt_of_cell? w _ f0
  have lo : ob < w.heap.size := World.block_lt_of_cell? w _ o0
  have l2 : 2 < w.heap.size := World.block_lt_of_cell? w _ t0
  have lf1 : fb < w.heap.size + 1 := by omega
  have lf2 : fb < w.heap.size + 1 + 1 := by omega
  have lu1 : ub < w.heap.size + 1 := by omega
  have lu2 : ub < w.heap.size + 1 + 1 := by omega
  have hcv : ∃ ad cap, cv = .slice ad n cap := by
    rcases hown.2 with ⟨rfl, rfl⟩ | ⟨g, cap, cur, rfl, _⟩
    · exact ⟨none, 0, rfl⟩
    · exact ⟨_, cap, rfl⟩
  obtain ⟨ad, cap, rfl⟩ := hcv
  go_enter Ybaf.func12, Ybaf.ntmps12
  go_upto_region 4 with fail
  go_cut [24] from 24 to 39 (fun _ wx => Appended fb base n (.slice ad n cap) xs (instr 10 e x) w wx)
  case first =>
    go_region_law (first
      | (refine step_append_lies _ (by rfl) _ _ _ (by rfl) base 49 i0 _ 4 16 Ybaf.underlying32 hi0 hz0 hz1 hz2 rfl (by omega) (.slice ad n cap) n xs (by rfl) (((hown.alloc _).alloc _).alloc _).drew ⟨w.heap.size + 1 + 1, 0, none⟩ 1 1 [.int .u8 10, .int .i32 e, .int .u32 x, .int .u32 0] (by rfl) (by rfl) (World.news_of_block (cs := #[.int .u8 10, .int .i32 e, .int .u32 x, .int .u32 0]) (t := 49) (fr := (0, 0)) (new3 _ _ _ _)) (by simp [Value.oneCell']) (by omega) (by unfold maxLen; omega) (by omega) (by simp; omega) (w.heap.size + 1 + 1 + 1) (by simp) ?_; intro g cap1 w1 hown1 hgrow hat hlt; have k0 := (hgrow.cell_far ⟨fb, 0, none⟩ (by simp; omega) (Ne.symm af)).trans (past3 _ _ _ f0); have k1 := (hgrow.frozen_far ⟨fb, 0, none⟩ (by simp; omega) (Ne.symm af)).trans ((pastz3 _ _ _ lf).trans zf))
      | (go_simp; go_at_call 21; refine (newInstr10 e x ob _ he0 he1 hx0 hx1 ?_ ?_).mono ?_; (go_simp); (go_simp); rintro r w' ⟨rfl, rfl⟩; dsimp only))
    all_goals
      go_wp2_with fail
      go_meet
      case rel =>
        exact appended_of lf af hown1 hgrow hat (by omega) k0
  case rest =>
    obtain ⟨g, cap1, kf, hown1, hat, htu⟩ := hcut
    have nu : ¬ (ub = fb ∨ (Value.slice ad n cap).ownBlock = some ub) := fun h => h.elim nuf au
    have n2 : ¬ (2 = fb ∨ (Value.slice ad n cap).ownBlock = some 2) := fun h => h.elim (fun e => nf2 e.symm) a2
    have v2 := htu.cell u2 nu; have v3 := htu.cell u3 nu; have v5 := htu.cell u5 nu
    have s0 := htu.cell t0 n2; have s1 := htu.cell t1 n2; have s2 := htu.cell t2 n2; have s3 := htu.cell t3 n2; have s4 := htu.cell t4 n2; have s5 := htu.cell t5 n2
    have y2 := (htu.frozenEq (o := 2) lu nu).trans z2; have y3 := (htu.frozenEq (o := 3) lu nu).trans z3; have y5 := (htu.frozenEq (o := 5) lu nu).trans z5
    have mu : ub < wc.heap.size := Nat.lt_of_lt_of_le lu htu.size
    have m2 : 2 < wc.heap.size := Nat.lt_of_lt_of_le l2 htu.size
    have n2u : 2 ≠ ub := Ne.symm nu2
    have HT : Hid (Turned (fun b => b = fb ∨ (Value.slice ad n cap).ownBlock = some b) w wc) := htu
    have HO : Hid (wc.ownsRow base 49 4 (.slice (some ⟨g, 0, none⟩) (n + 1) cap1) (n + 1) (xs ++ instr 10 e x)) := hown1
    have HA : Hid ((Value.slice ad n cap).ownBlock = some g ∨ w.heap.size ≤ g) := hat
    have HU : Hid ((Value.slice ad n cap).ownBlock ≠ some ub) := au
    clear htu hown1 hat hown u2 u3 u5 t0 t1 t2 t3 t4 t5 z2 z3 z5 zf f0 o0 c2 u0 hi0 hz0 hz1 hz2 au af a2 nu n2
    go_wp2
    go_region
    go_wp2
    go_region
    go_wp2
    go_ret
    exact ⟨rfl, emitted_of lu nuf HU.out kf HO.out HA.out HT.out v5 rfl⟩
end Go.Proofs.YbulkauoyFmt
