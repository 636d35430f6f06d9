import Derived.Test.YbulkauoyFmtGlobs
namespace Go.Proofs.YbulkauoyFmt
open Go.ChangeShapes Go.WideShapes Go.ChangeAt Go.RowKit

theorem Ybaf.i9 : (Ybaf.prog.info? 9).map (fun i => (i.zero, i.size, i.bytes)) = some (some (.string ⟨#[]⟩), 1, 16) := by kernel_rfl

/-- The compiler at cb with the global names D: the map at mb, the row of names nv. -/
structure Globs (cb mb base n : Nat) (nv : Value) (D : List ByteArray) (w : World) : Prop where
  c0 : w.cell? ⟨cb, 0, none⟩ = some (.map (some mb))
  c1 : w.cell? ⟨cb, 1, none⟩ = some nv
  z1 : w.frozen? ⟨cb, 1, none⟩ = false
  m : w.heap[mb]? = some (.map (entsFrom D 0).toArray D.length)
  own : w.ownsRow base 9 1 nv n (D.map Value.string)
  ncm : cb ≠ mb
  ac : nv.ownBlock ≠ some cb
  am : nv.ownBlock ≠ some mb
  base_le : base ≤ w.heap.size

/-- A name that is known: its slot. -/
theorem slot_hit {cb mb base n : Nat} {nv : Value} {D : List ByteArray} {w : World} (h : Globs cb mb base n nv D w) (name : ByteArray) {j : Nat} (hj : ix D name 0 = (j : Int)) :
    Calls Ybaf.prog 13 #[.pointer (some ⟨cb, 0, none⟩), .string name] w fun r w' => r = .returned (.int .i64 j) ∧ w' = w := by
  have c0 := h.c0
  have hl := lookup_hit h.m name hj
  clear hj h
  go_enter Ybaf.func13, Ybaf.ntmps13
  go_wp2
  go_ret
  exact ⟨rfl, rfl⟩

/-- Behind a new name: the map and the row bear it at the end; nothing else has turned. -/
def Grew (cb mb base n : Nat) (nv : Value) (D : List ByteArray) (name : ByteArray) (w w' : World) : Prop :=
  ∃ g cap, w'.cell? ⟨cb, 1, none⟩ = some (.slice (some ⟨g, 0, none⟩) (n + 1) cap) ∧ w'.ownsRow base 9 1 (.slice (some ⟨g, 0, none⟩) (n + 1) cap) (n + 1) ((D ++ [name]).map Value.string) ∧
    w'.heap[mb]? = some (.map (entsFrom (D ++ [name]) 0).toArray (D ++ [name]).length) ∧ (∀ o, o ≠ 1 → w'.cell? ⟨cb, o, none⟩ = w.cell? ⟨cb, o, none⟩) ∧ (∀ o, w'.frozen? ⟨cb, o, none⟩ = w.frozen? ⟨cb, o, none⟩) ∧
    Turned (fun b => b = mb ∨ b = cb ∨ nv.ownBlock = some b) w w'

theorem grew_of {cb mb base n : Nat} {nv : Value} {D : List ByteArray} {name : ByteArray} {w WM w1 : World} {o1 : Obj} {g cap old : Nat} {v0 : Value} (h : Globs cb mb base n nv D w) (ht : Turned (fun b => b = mb) w WM) (hz : WM.heap.size = w.heap.size)
    (hm : WM.heap[mb]? = some (.map (entsFrom (D ++ [name]) 0).toArray (D ++ [name]).length)) (hown : w1.ownsRow base 9 1 (.slice (some ⟨g, 0, none⟩) (n + 1) cap) (n + 1) (D.map Value.string ++ [Value.string name]))
    (hgrow : (WM.alloc o1).grownBy w1 nv.ownBlock) (hat : nv.ownBlock = some g ∨ g = old) (ho : WM.heap.size < old) (q1 : w1.cell? ⟨cb, 1, none⟩ = some v0) :
    Grew cb mb base n nv D name w (w1.setCell ⟨cb, 1, none⟩ (.slice (some ⟨g, 0, none⟩) (n + 1) cap)) := by
  have lc : cb < w.heap.size := World.block_lt_of_cell? w _ h.c0
  have lm : mb < w.heap.size := (Array.getElem?_eq_some_iff.1 h.m).1
  have hne : (Value.slice (some ⟨g, 0, none⟩) (n + 1) cap).ownBlock ≠ some cb := by
    intro hh
    have hg : g = cb := by simpa [Value.ownBlock] using hh
    rcases hat with h1 | h1
    · exact h.ac (hg ▸ h1)
    · omega
  have hmb : w1.heap[mb]? = some (.map (entsFrom (D ++ [name]) 0).toArray (D ++ [name]).length) := by
    rw [hgrow.block mb (by simp; omega) (Ne.symm h.am), Below.heap_alloc _ _ _ (by omega)]
    exact hm
  refine ⟨g, cap, World.cell?_setCell_same _ _ _ q1, ?_, ?_, ?_, ?_, ?_⟩
  · rw [List.map_append]
    exact ownsRow_setCell_other hown hne _
  · rw [Below.heap_setCell _ _ _ _ (Ne.symm h.ncm)]
    exact hmb
  · intro o ho1
    rw [World.cell?_setCell_other _ _ _ _ (fun hh => ho1 (by simpa using (congrArg Addr.off hh).symm)), hgrow.cell_far _ (by simp; omega) (Ne.symm h.ac), World.cell?_alloc_lt _ _ _ (by simp; omega)]
    exact ht.cellEq lc h.ncm
  · intro o
    rw [World.frozen?_setCell, hgrow.frozen_far _ (by simp; omega) (Ne.symm h.ac), pastz1 _ (by simp; omega)]
    exact ht.frozenEq lc h.ncm
  · refine Turned.setCell ?_ (fun _ => .inr (.inl rfl)) _
    exact ((ht.mono fun b _ hb => .inl hb).alloc o1).grown hgrow fun b _ hb => .inr (.inr hb)

set_option maxHeartbeats 1000000 in
/-- A new name: the slot at the end. -/
theorem slot_miss {cb mb base n : Nat} {nv : Value} {D : List ByteArray} {w : World} (h : Globs cb mb base n nv D w) (name : ByteArray) (hj : ix D name 0 = -1) (hn : n ≤ 1000) :
    Calls Ybaf.prog 13 #[.pointer (some ⟨cb, 0, none⟩), .string name] w fun r w' => r = .returned (.int .i64 n) ∧ Grew cb mb base n nv D name w w' := by
  obtain ⟨i0, hi0, hz0, hz1, hz2⟩ := info_parts Ybaf.i9
  have hlen : D.length = n := by have := h.own.1; simpa using this
  have hnv : ∃ ad cap, nv = .slice ad n cap := by
    rcases h.own.2 with ⟨rfl, rfl⟩ | ⟨g, cap, cur, rfl, _⟩
    · exact ⟨none, 0, rfl⟩
    · exact ⟨_, cap, rfl⟩
  obtain ⟨ad, cap, rfl⟩ := hnv
  have c0 := h.c0
  have c1 := h.c1
  have hl := lookup_miss h.m name hj
  have hup := update_new h.m name hj
  rw [hlen] at hup
  have lc : cb < w.heap.size := World.block_lt_of_cell? w _ c0
  have lm : mb < w.heap.size := (Array.getElem?_eq_some_iff.1 h.m).1
  obtain ⟨WM, hWM⟩ : ∃ WM, WM = setMap w mb (D ++ [name]) := ⟨_, rfl⟩
  have ht := setMap_turned w mb (D ++ [name])
  have hm := setMap_at (D := D ++ [name]) lm
  rw [← hWM] at hup ht hm
  have k1 : WM.cell? ⟨cb, 1, none⟩ = some (.slice ad n cap) := ht.cell c1 h.ncm
  have y1 : WM.frozen? ⟨cb, 1, none⟩ = false := (ht.frozenEq lc h.ncm).trans h.z1
  have hsz : WM.heap.size = w.heap.size := by rw [hWM]; simp [setMap]
  have hown : WM.ownsRow base 9 1 (.slice ad n cap) n (D.map Value.string) := by
    refine h.own.kept (row := some mb) ⟨ht.os, ht.tape, ht.output, ht.size, fun k hk hne => ht.block k hk fun e => hne (by rw [e])⟩ (.inr h.am)
  have HT : Hid (Turned (fun b => b = mb) w WM) := ht
  have HM : Hid (WM.heap[mb]? = some (.map (entsFrom (D ++ [name]) 0).toArray (D ++ [name]).length)) := hm
  have HG : Hid (Globs cb mb base n (.slice ad n cap) D w) := h
  have HZ : Hid (WM.heap.size = w.heap.size) := hsz
  have lcM : cb < WM.heap.size := by omega
  have hbM : base ≤ WM.heap.size := by have := h.base_le; omega
  clear hWM hm ht h hj hsz hlen
  go_enter Ybaf.func13, Ybaf.ntmps13
  go_wp2_with (first | (at_builtin; refine wpList_append_lies _ rfl (.tmp 33) (.tmp 35) 22 rfl base 9 i0 _ 1 16 Ybaf.underlying22 hi0 hz0 hz1 hz2 rfl (by omega) (.slice ad n cap) n (D.map Value.string) rfl (hown.alloc _) ⟨WM.heap.size, 0, none⟩ 1 1 [.string name] rfl rfl (World.news_of_block (cs := #[.string name]) (t := 9) (fr := (0, 0)) (heap_alloc_new WM _)) (by simp [Value.oneCell']) (by omega) (by unfold maxLen; omega) (by omega) (by simp; omega) (WM.heap.size + 1) (by simp) ?_; intro g cap1 w1 hown1 hgrow hat hlt; have q1 := (hgrow.cell_far ⟨cb, 1, none⟩ (by simp; omega) (Ne.symm HG.out.ac)).trans (past1 _ k1); have q2 := (hgrow.frozen_far ⟨cb, 1, none⟩ (by simp; omega) (Ne.symm HG.out.ac)).trans ((pastz1 _ lcM).trans y1)))
  go_ret
  exact ⟨rfl, grew_of HG.out HT.out HZ.out HM.out hown1 hgrow hat (by omega) q1⟩
end Go.Proofs.YbulkauoyFmt
