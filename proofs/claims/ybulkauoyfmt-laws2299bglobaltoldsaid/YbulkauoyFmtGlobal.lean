import Derived.Test.YbulkauoyFmtNames
import Derived.Test.YbulkauoyFmtCoded
import Derived.Test.YbulkauoyFmtLocal
import Derived.Deep.CutRange
namespace Go.Proofs.YbulkauoyFmt
open Go.ChangeShapes Go.WideShapes Go.ChangeAt Go.RowKit

/-- The first loop's promise: behind t names the row of the different ones is the call's own. -/
def Kept1 (w : World) (ss : List ByteArray) (t : Nat) (v : Value) (wr : World) : Prop :=
  wr.ownsRow w.heap.size 9 1 v (dd ss t).length ((dd ss t).map Value.string) ∧ Below w.heap.size w wr

theorem own_base {base e size n : Nat} {v : Value} {xs : List Value} {w : World} (h : w.ownsRow base e size v n xs) {b : Nat} (hb : v.ownBlock = some b) : base ≤ b := by
  rcases h.2 with ⟨rfl, _⟩ | ⟨g, cap, cur, rfl, h1, _⟩
  · simp [Value.ownBlock] at hb
  · have : g = b := by simpa [Value.ownBlock] using hb
    omega
theorem Kept1.new {w : World} {ss : List ByteArray} {t : Nat} {v v1 : Value} {wr w1 : World} {s : ByteArray} {o : Obj} (h : Kept1 w ss t v wr) (hs : s = ss.getD t ByteArray.empty) (hix : ix (dd ss t) s 0 < 0)
    (hown : w1.ownsRow w.heap.size 9 1 v1 ((dd ss t).length + 1) ((dd ss t).map Value.string ++ [Value.string s])) (hg : (wr.alloc o).grownBy w1 v.ownBlock) : Kept1 w ss (t + 1) v1 w1 := by
  subst hs
  refine ⟨?_, h.2.trans ((((Turned.refl (fun b => v.ownBlock = some b) wr).alloc o).grown hg fun b _ hb => hb).below h.2.size fun b hb => own_base h.1 hb)⟩
  rw [dd_new hix, List.map_append, List.length_append]
  exact hown
theorem Kept1.old {w : World} {ss : List ByteArray} {t : Nat} {v : Value} {wr : World} {s : ByteArray} (h : Kept1 w ss t v wr) (hs : s = ss.getD t ByteArray.empty) (hix : ¬ ix (dd ss t) s 0 < 0) : Kept1 w ss (t + 1) v wr := by
  subst hs
  refine ⟨?_, h.2⟩
  rw [dd_old hix]
  exact h.1

/-- The second loop's promise: the map and the names bear the first t of the different names. -/
structure Kept2 (w wr : World) (D : List ByteArray) (v : Value) (m t : Nat) (wc : World) : Prop where
  g : wc.heap[wr.heap.size]? = some (.map (entsFrom (D.take t) 0).toArray (D.take t).length)
  c : wc.heap[wr.heap.size + 1 + 1]? = some (.cells #[.map (some wr.heap.size), .slice none 0 0, .pointer none, .map (some (wr.heap.size + 1))] 30)
  nm : wc.ownsRow wr.heap.size 9 1 (.slice (some ⟨wr.heap.size + 1 + 1 + 1, 0, none⟩) t m) t ((D.take t).map Value.string)
  own : wc.ownsRow w.heap.size 9 1 v m (D.map Value.string)
  below : Below w.heap.size w wc
  size : wr.heap.size + 1 + 1 + 1 + 1 ≤ wc.heap.size
  base : w.heap.size ≤ wr.heap.size
  old : ∀ b, v.ownBlock = some b → b < wr.heap.size

theorem own_turned {S : Nat → Prop} {base e size n : Nat} {v : Value} {xs : List Value} {w w' : World} (h : w.ownsRow base e size v n xs) (ht : Turned S w w') (hn : ∀ b, v.ownBlock = some b → ¬ S b) : w'.ownsRow base e size v n xs := by
  obtain ⟨h1, h2⟩ := h
  refine ⟨h1, ?_⟩
  rcases h2 with h2 | ⟨g', cap', cur, hv, hb, hh, r⟩
  · exact .inl h2
  · refine .inr ⟨g', cap', cur, hv, hb, ?_, r⟩
    exact (ht.block g' (Array.getElem?_eq_some_iff.1 hh).1 (hn g' (by rw [hv]; rfl))).trans hh

theorem own_lt {base e size n : Nat} {v : Value} {xs : List Value} {w : World} (h : w.ownsRow base e size v n xs) {b : Nat} (hb : v.ownBlock = some b) : b < w.heap.size := by
  rcases h.2 with ⟨rfl, _⟩ | ⟨g, cap, cur, rfl, h1, hh, _⟩
  · simp [Value.ownBlock] at hb
  · have : g = b := by simpa [Value.ownBlock] using hb
    subst this
    exact (Array.getElem?_eq_some_iff.1 hh).1

theorem kept2_start {w wr : World} {D : List ByteArray} {v : Value} {m : Nat} (hown : wr.ownsRow w.heap.size 9 1 v m (D.map Value.string)) (hb : Below w.heap.size w wr) (hm : m ≤ 256) :
    Kept2 w wr D v m 0 ((((wr.alloc (.map #[] 0)).alloc (.map #[] 0)).alloc (.cells #[.map (some wr.heap.size), .slice none 0 0, .pointer none, .map (some (wr.heap.size + 1))] 30)).alloc (.cells (copies m (.string ⟨#[]⟩)) 9)) where
  g := oldB (oldB (oldB (newB rfl)))
  c := oldB (newB (by simp))
  nm := ⟨by simp, .inr ⟨_, m, copies m (.string ⟨#[]⟩), rfl, by omega, newB (by simp), Nat.zero_le _, by unfold maxLen; omega, by simp [copies_size], by simp⟩⟩
  own := (((hown.alloc _).alloc _).alloc _).alloc _
  below := hb.trans ((((((Turned.refl (fun _ => False) wr).alloc _).alloc _).alloc _).alloc _).below hb.size fun b h => h.elim)
  size := by simp
  base := hb.size
  old := fun b h => own_lt hown h

theorem Kept2.next {w wr : World} {D : List ByteArray} {v : Value} {m t : Nat} {wc w1 : World} {o : Obj} {s : ByteArray} (h : Kept2 w wr D v m t wc) (hm : m = D.length) (ht : t < m) (hs : s = D.getD t ByteArray.empty)
    (hown : w1.ownsRow wr.heap.size 9 1 (.slice (some ⟨wr.heap.size + 1 + 1 + 1, 0, none⟩) (t + 1) m) (t + 1) ((D.take t).map Value.string ++ [Value.string s]))
    (hg : ((setMap wc wr.heap.size (D.take t ++ [s])).alloc o).grownBy w1 (some (wr.heap.size + 1 + 1 + 1))) : Kept2 w wr D v m (t + 1) w1 := by
  subst hm
  subst hs
  have htn : Turned (fun b => b = wr.heap.size ∨ b = wr.heap.size + 1 + 1 + 1) wc w1 :=
    (((setMap_turned wc wr.heap.size (D.take t ++ [D.getD t ByteArray.empty])).mono fun b _ hb => .inl hb).alloc o).grown hg fun b _ hb => .inr (by simpa using hb.symm)
  have lm : wr.heap.size < wc.heap.size := by have := h.size; omega
  have hsm : (setMap wc wr.heap.size (D.take t ++ [D.getD t ByteArray.empty])).heap.size = wc.heap.size := by simp [setMap]
  refine ⟨?_, turnedB htn h.c (by omega), ?_, own_turned h.own htn ?_, h.below.trans (htn.below (B := w.heap.size) h.below.size fun b hb => by have := h.base; omega), Nat.le_trans h.size htn.size, h.base, h.old⟩
  · rw [take_getD ht, hg.block _ (by rw [World.size_alloc, hsm]; omega) (fun e => by simp only [Option.some.injEq] at e; omega), Below.heap_alloc _ _ _ (by omega)]
    exact setMap_at lm
  · rw [take_getD ht, List.map_append]
    exact hown
  · intro b hb
    have := h.old b hb
    omega

def zFunc : Obj := .cells #[.slice none 0 0, .slice none 0 0, .slice none 0 0, .int .i64 0, .int .i64 0, .int .i64 0, .slice none 0 0, .int .i64 0, .map none, .string ⟨#[]⟩] 38
def zUnit (H : Nat) (e : Int) : Obj := .cells #[.pointer (some ⟨H, 0, none⟩), .pointer none, .int .i64 0, .int .i64 0, .int .i64 0, .int .i64 e, .slice none 0 0, .slice none 0 0, .slice none 0 0] 44

/-- What lies there at the call of 'bind'. -/
structure AtBind (w w0 : World) (D : List ByteArray) (v : Value) (m : Nat) (e : Int) (H : Nat) (wb : World) : Prop where
  globs : Globs (w0.heap.size + 1 + 1) w0.heap.size w0.heap.size m (.slice (some ⟨w0.heap.size + 1 + 1 + 1, 0, none⟩) m m) D wb
  unit : UnitAt 36 (w0.heap.size + 1 + 1) (H + 1) H w0.heap.size 0 e (.slice none 0 0) [] wb
  u1 : wb.cell? ⟨H + 1, 1, none⟩ = some (.pointer none)
  own : wb.ownsRow w.heap.size 9 1 v m (D.map Value.string)
  below : Below w.heap.size w wb
  lt : w0.heap.size + 1 + 1 + 1 < H
  base : w.heap.size ≤ w0.heap.size
  old : ∀ b, v.ownBlock = some b → b < w0.heap.size
  hf : wb.heap[H]? = some zFunc
  hu : wb.heap[H + 1]? = some (zUnit H e)

set_option maxHeartbeats 1000000 in
theorem atBind_of {w w0 : World} {D : List ByteArray} {v : Value} {m : Nat} {wc : World} {e : Int} (h : Kept2 w w0 D v m m wc) (hm : m = D.length) (ht : Tabs w) :
    AtBind w w0 D v m e wc.heap.size ((((wc.setCell ⟨w0.heap.size + 1 + 1, 1, none⟩ (.slice (some ⟨w0.heap.size + 1 + 1 + 1, 0, none⟩) m m)).alloc zFunc).alloc (zUnit wc.heap.size e)).setCell ⟨w0.heap.size + 1 + 1, 2, none⟩ (.pointer (some ⟨wc.heap.size + 1, 0, none⟩))) := by
  have hg := h.g
  have hn := h.nm
  rw [List.take_of_length_le (by omega)] at hg hn
  have hsz := h.size
  have hbs := h.base
  obtain ⟨wb, hwb⟩ : ∃ wb, wb = ((((wc.setCell ⟨w0.heap.size + 1 + 1, 1, none⟩ (.slice (some ⟨w0.heap.size + 1 + 1 + 1, 0, none⟩) m m)).alloc zFunc).alloc (zUnit wc.heap.size e)).setCell ⟨w0.heap.size + 1 + 1, 2, none⟩ (.pointer (some ⟨wc.heap.size + 1, 0, none⟩))) := ⟨_, rfl⟩
  have htn : Turned (fun b => b = w0.heap.size + 1 + 1) wc wb := by
    rw [hwb]
    exact ((((Turned.refl (fun b => b = w0.heap.size + 1 + 1) wc).setCell (p := ⟨w0.heap.size + 1 + 1, 1, none⟩) (fun _ => rfl) _).alloc _).alloc _).setCell (p := ⟨w0.heap.size + 1 + 1, 2, none⟩) (fun _ => rfl) _
  have hc : wb.heap[w0.heap.size + 1 + 1]? = some (.cells #[.map (some w0.heap.size), .slice (some ⟨w0.heap.size + 1 + 1 + 1, 0, none⟩) m m, .pointer (some ⟨wc.heap.size + 1, 0, none⟩), .map (some (w0.heap.size + 1))] 30) := by
    rw [hwb]
    exact setB (oldB (oldB (setB h.c)))
  have hf : wb.heap[wc.heap.size]? = some zFunc := by
    rw [hwb]
    exact otherB (oldB (newB (by simp))) (by simp only [ne_eq]; omega)
  have hu : wb.heap[wc.heap.size + 1]? = some (zUnit wc.heap.size e) := by
    rw [hwb]
    exact otherB (newB (by simp)) (by simp only [ne_eq]; omega)
  have hbel : Below w.heap.size w wb := h.below.trans (htn.below h.below.size fun b hb => by omega)
  have l2 : 2 < w.heap.size := World.block_lt_of_cell? w _ ht.t6_0
  rw [← hwb]
  clear hwb
  exact
  { globs := { c0 := cellB hc, c1 := cellB hc, z1 := freeB hc, m := turnedB htn hg (by omega), own := own_turned hn htn (fun b hb => by simp [Value.ownBlock] at hb; omega), ncm := by omega
               ac := by simp [Value.ownBlock], am := by simp only [Value.ownBlock, ne_eq, Option.some.injEq]; omega, base_le := by have := htn.size; omega }
    unit := { c2 := cellB hc, u0 := cellB hu, u2 := cellB hu, u3 := cellB hu, u5 := cellB hu, f0 := cellB hf, own := ⟨rfl, .inl ⟨rfl, rfl⟩⟩
              t0 := keepsB hbel ht.t6_0 l2, t1 := keepsB hbel ht.t6_1 l2, t2 := keepsB hbel ht.t6_2 l2, t3 := keepsB hbel ht.t6_3 l2, t4 := keepsB hbel ht.t6_4 l2, t5 := keepsB hbel ht.t6_5 l2
              z2 := freeB hu, z3 := freeB hu, z5 := freeB hu, zf := freeB hf, nuf := by omega, nu2 := by omega, nf2 := by omega, au := by simp [Value.ownBlock], af := by simp [Value.ownBlock], a2 := by simp [Value.ownBlock]
              base_le := by have := htn.size; omega }
    u1 := cellB hu
    own := own_turned h.own htn (fun b hb => by have := h.old b hb; omega)
    below := hbel, lt := by omega, base := hbs, old := h.old, hf := hf, hu := hu }

/-- Behind 'bind': the one instruction, the names and the map. -/
structure Bound (w w0 : World) (D D' : List ByteArray) (v : Value) (m j : Nat) (e : Int) (H : Nat) (name : ByteArray) (w1 : World) (g cap gn capn : Nat) : Prop where
  f0 : w1.cell? ⟨H, 0, none⟩ = some (.slice (some ⟨g, 0, none⟩) 1 cap)
  i0 : w1.cell? ⟨g, 0, none⟩ = some (.int .u8 6)
  i1 : w1.cell? ⟨g, 1, none⟩ = some (.int .i32 e)
  i2 : w1.cell? ⟨g, 2, none⟩ = some (.int .u32 j)
  i3 : w1.cell? ⟨g, 3, none⟩ = some (.int .u32 0)
  u0 : w1.cell? ⟨H + 1, 0, none⟩ = some (.pointer (some ⟨H, 0, none⟩))
  u5 : w1.cell? ⟨H + 1, 5, none⟩ = some (.int .i64 0)
  c0 : w1.cell? ⟨w0.heap.size + 1 + 1, 0, none⟩ = some (.map (some w0.heap.size))
  c1 : w1.cell? ⟨w0.heap.size + 1 + 1, 1, none⟩ = some (.slice (some ⟨gn, 0, none⟩) D'.length capn)
  nj : w1.cell? ⟨gn, j, none⟩ = some (.string name)
  mp : w1.heap[w0.heap.size]? = some (.map (entsFrom D' 0).toArray D'.length)
  own : w1.ownsRow w.heap.size 9 1 v m (D.map Value.string)
  below : Below w.heap.size w w1
  lt : w0.heap.size + 1 + 1 + 1 < H

theorem bound_hit {w w0 : World} {D : List ByteArray} {v : Value} {m j : Nat} {e : Int} {H : Nat} {name : ByteArray} {wb w1 : World} (h : AtBind w w0 D v m e H wb) (hj : D[j]? = some name)
    (hE : Emitted (H + 1) H w0.heap.size 0 (.slice none 0 0) [] (instr 6 e j) wb w1) : ∃ g cap gn capn, Bound w w0 D D v m j e H name w1 g cap gn capn := by
  obtain ⟨g, cap, h1, h2, h3, h4, h5, h6, h7⟩ := hE
  have hlt := h.lt
  have hbs := h.base
  have hlen : D.length = m := by have := h.own.1; simpa using this
  have hn : ∀ b, b < H → ¬ (b = H + 1 ∨ b = H ∨ (Value.slice none 0 0).ownBlock = some b) := by
    intro b hb hh
    rcases hh with hh | hh | hh
    · omega
    · omega
    · simp [Value.ownBlock] at hh
  have hat : ∀ k, k < 4 → w1.cell? ⟨g, k, none⟩ = (instr 6 e j)[k]? := fun k hk => by rw [h2.cellAt k (by omega)]; rfl
  have hnm := own_turned h.globs.own h7 (fun b hb => hn b (by simp [Value.ownBlock] at hb; omega))
  refine ⟨g, cap, w0.heap.size + 1 + 1 + 1, m, h1, hat 0 (by decide), hat 1 (by decide), hat 2 (by decide), hat 3 (by decide), (h5 0 (by decide) (by decide) (by decide)).trans h.unit.u0, h4, h7.cell h.globs.c0 (hn _ (by omega)), ?_, ?_, turnedB h7 h.globs.m (hn _ (by omega)), own_turned h.own h7 (fun b hb => hn b (by have := h.old b hb; omega)), ?_, hlt⟩
  · rw [hlen]; exact h7.cell h.globs.c1 (hn _ (by omega))
  · have hjl : j < D.length := (List.getElem?_eq_some_iff.1 hj).1
    rw [hnm.cellAt j (by omega), List.getElem?_map, hj]; rfl
  · exact h.below.trans (h7.below (B := w.heap.size) h.below.size (fun b hb => by
      rcases hb with hb | hb | hb
      · omega
      · omega
      · simp [Value.ownBlock] at hb))

theorem bound_miss {w w0 : World} {D : List ByteArray} {v : Value} {m : Nat} {e : Int} {H : Nat} {name : ByteArray} {wb wg w1 : World} (h : AtBind w w0 D v m e H wb)
    (hG : Grew (w0.heap.size + 1 + 1) w0.heap.size w0.heap.size m (.slice (some ⟨w0.heap.size + 1 + 1 + 1, 0, none⟩) m m) D name wb wg)
    (hE : Emitted (H + 1) H w0.heap.size 0 (.slice none 0 0) [] (instr 6 e m) wg w1) : ∃ g cap gn capn, Bound w w0 D (D ++ [name]) v m m e H name w1 g cap gn capn := by
  have lH : H + 1 < wb.heap.size := h.unit.lu
  have hlt := h.lt
  have hbs := h.base
  have hlen : D.length = m := by have := h.own.1; simpa using this
  have hS : ∀ b, ¬ (b = w0.heap.size ∨ b = w0.heap.size + 1 + 1 ∨ b = w0.heap.size + 1 + 1 + 1) → ¬ (b = w0.heap.size ∨ b = w0.heap.size + 1 + 1 ∨ (Value.slice (some ⟨w0.heap.size + 1 + 1 + 1, 0, none⟩) m m).ownBlock = some b) := by
    intro b hb hh
    rcases hh with hh | hh | hh
    · omega
    · omega
    · simp [Value.ownBlock] at hh; omega
  obtain ⟨gn, capn, k1, k2, k3, k4, k5, k6⟩ := hG
  obtain ⟨g, cap, h1, h2, h3, h4, h5, h6, h7⟩ := hE
  have qf := turnedB k6 h.hf (hS _ (by omega))
  have qu := turnedB k6 h.hu (hS _ (by omega))
  have hn : ∀ b, b ≠ H → b ≠ H + 1 → ¬ (b = H + 1 ∨ b = H ∨ (Value.slice none 0 0).ownBlock = some b) := by
    intro b hb hb1 hh
    rcases hh with hh | hh | hh
    · omega
    · omega
    · simp [Value.ownBlock] at hh
  have hgn : gn ≠ H ∧ gn ≠ H + 1 := by
    rcases k2.2 with ⟨h1, _⟩ | ⟨g', cap', cur, hv, _, hh, _⟩
    · simp at h1
    · have : gn = g' := by simp at hv; exact hv.1
      subst this
      refine ⟨fun e1 => ?_, fun e1 => ?_⟩
      · rw [e1, qf] at hh; simp [zFunc] at hh
      · rw [e1, qu] at hh; simp [zUnit] at hh
  have hat : ∀ k, k < 4 → w1.cell? ⟨g, k, none⟩ = (instr 6 e m)[k]? := fun k hk => by rw [h2.cellAt k (by omega)]; rfl
  have hnm := own_turned k2 h7 (fun b hb => by simp only [Value.ownBlock, Option.some.injEq] at hb; exact hn b (by omega) (by omega))
  have hlen' : (D ++ [name]).length = m + 1 := by simp [hlen]
  refine ⟨g, cap, gn, capn, h1, hat 0 (by decide), hat 1 (by decide), hat 2 (by decide), hat 3 (by decide), (h5 0 (by decide) (by decide) (by decide)).trans (cellB qu), h4, h7.cell ((k4 0 (by decide)).trans h.globs.c0) (hn _ (by omega) (by omega)), ?_, ?_, turnedB h7 k3 (hn _ (by omega) (by omega)), own_turned (own_turned h.own k6 (fun b hb => hS b (by have := h.old b hb; omega))) h7 (fun b hb => by have := h.old b hb; exact hn b (by omega) (by omega)), ?_, hlt⟩
  · rw [hlen']; exact h7.cell k1 (hn _ (by omega) (by omega))
  · rw [hnm.cellAt m (by omega), List.getElem?_map, List.getElem?_append_right (by omega), hlen, Nat.sub_self]; rfl
  · refine (h.below.trans (k6.below (B := w.heap.size) h.below.size (fun b hb => ?_))).trans (h7.below (B := w.heap.size) (Nat.le_trans h.below.size k6.size) (fun b hb => ?_))
    · rcases hb with hb | hb | hb
      · omega
      · omega
      · simp [Value.ownBlock] at hb; omega
    · rcases hb with hb | hb | hb
      · omega
      · omega
      · simp [Value.ownBlock] at hb

theorem ix_snoc {D : List ByteArray} {name : ByteArray} (h : name ∉ D) : ix (D ++ [name]) name 0 = (D.length : Int) := by
  rcases ix_cases (D ++ [name]) name with ⟨_, h1⟩ | ⟨j, h1, h2⟩
  · exact absurd (by simp) h1
  · have hl := (List.getElem?_eq_some_iff.1 h2).1
    rw [h1]
    by_cases hj : j < D.length
    · rw [List.getElem?_append_left hj] at h2
      exact absurd (List.mem_of_getElem? h2) h
    · simp at hl
      omega

set_option maxRecDepth 100000 in
set_option maxHeartbeats 3200000 in
theorem global_walk (pao : Option Addr) (n cap : Nat) (a2 : Int) (name : ByteArray) (ss : List ByteArray) (w : World) (h20 : 0 ≤ a2) (h21 : a2 ≤ 255) (hle : n ≤ 256)
    (hp : n = 0 ∨ ∃ pa, pao = some pa ∧ ∀ t, t < n → w.cell? (pa.add t) = some (.string (ss.getD t ByteArray.empty))) (htab : Tabs w) :
    Calls Ybaf.prog 3 #[.slice pao n cap, .string name, .int .u8 a2] w fun r w' => r = .returned (.bool true) ∧ Below w.heap.size w w' := by
  obtain ⟨i0, hi0, hz0, hz1, hz2⟩ := info_parts Ybaf.i9
  have hni : ¬ (n : Int) > 256 := by omega
  go_enter Ybaf.func3, Ybaf.ntmps3
  go_wp2_with fail
  go_loopw [7, 27] (fun v k wr => ∃ t : Nat, t ≤ n ∧ k = .int .i64 t ∧ Kept1 w ss t v wr) (fun _ k _ => n - (intOf k).toNat)
  case atStart => exact ⟨0, Nat.zero_le _, rfl, ⟨by simp [dd], .inl ⟨rfl, rfl⟩⟩, Below.refl _ _⟩
  case round =>
    obtain ⟨t, ht, rfl, hK⟩ := hrel
    by_cases hlt : t < n
    · obtain ⟨pa, rfl, hc⟩ : ∃ pa, pao = some pa ∧ ∀ t, t < n → w.cell? (pa.add t) = some (.string (ss.getD t ByteArray.empty)) := by
        rcases hp with hp | hp
        · omega
        · exact hp
      obtain ⟨s, hs⟩ : ∃ s, s = ss.getD t ByteArray.empty := ⟨_, rfl⟩
      have kt : wr.cell? (pa.add t) = some (.string s) := by rw [hs]; exact (hK.2.cell (World.block_lt_of_cell? w _ (hc t hlt))).trans (hc t hlt)
      have h0 : (0 : Int) ≤ (t : Int) := Int.natCast_nonneg _
      have h1 : (t : Int) < (n : Int) := by omega
      have hdl := dd_le ss t
      have HK : Hid (Kept1 w ss t u7 wr) := hK
      have HS : Hid (s = ss.getD t ByteArray.empty) := hs
      have hown := hK.1
      have hbas := hK.2.size
      clear hK hc hs hp
      go_wp2_with fail
      refine (index_own _ _ _ _ s _ hown (by omega)).mono ?_
      rintro r w' ⟨rfl, rfl⟩
      by_cases hix : ix (dd ss t) s 0 < 0
      · go_wp2_with (first | (at_builtin; refine wpList_append_lies _ rfl (.tmp 35) (.tmp 37) 22 rfl w.heap.size 9 i0 _ 1 16 Ybaf.underlying22 hi0 hz0 hz1 hz2 rfl (by omega) u7 _ _ rfl (hown.alloc _) ⟨w'.heap.size, 0, none⟩ 1 1 [.string s] rfl rfl (World.news_of_block (cs := #[.string s]) (t := 9) (fr := (0, 0)) (heap_alloc_new w' _)) (by simp [Value.oneCell']) (by omega) (by unfold maxLen; omega) (by omega) (by simp; omega) (w'.heap.size + 1) (by simp) ?_; intro g cap1 w1 hown1 hgrow hat hlt))
        go_roundw
        case rel => exact ⟨t + 1, by omega, by go_num, HK.out.new HS.out hix hown1 hgrow⟩
        case measure => simp [intOf]; omega
      · go_wp2
        go_roundw
        case rel => exact ⟨t + 1, by omega, by go_num, HK.out.old HS.out (by omega)⟩
        case measure => simp [intOf]; omega
    · obtain rfl : t = n := by omega
      obtain ⟨D, hD⟩ : ∃ D, D = dd ss t := ⟨_, rfl⟩
      have hown := hK.1
      have hbel := hK.2
      have hdl := dd_le ss t
      have hnd := dd_nodup ss t
      rw [← hD] at hown hdl hnd
      obtain ⟨m, hm⟩ : ∃ m, m = D.length := ⟨_, rfl⟩
      rw [← hm] at hown hdl
      have hmk := make22 m (by omega)
      have HB : Hid (Below w.heap.size w wr) := hbel
      have hsz := hbel.size
      have hvs : ∃ ad cap, u7 = .slice ad m cap := by
        rcases hown.2 with ⟨rfl, rfl⟩ | ⟨g, cap, cur, rfl, _⟩
        · exact ⟨none, 0, rfl⟩
        · exact ⟨_, cap, rfl⟩
      obtain ⟨ad, dcap, rfl⟩ := hvs
      have HM : Hid (m = D.length) := hm
      clear hK hp hD hbel hni hm
      rename World => w0
      go_wp2_with (go_at_call 8; refine (newCompiler_any _).mono ?_; rintro r w' ⟨rfl, rfl⟩)
      go_loopw [11, 46] (fun v k wc => ∃ q : Nat, q ≤ m ∧ k = .int .i64 q ∧ v = .slice (some ⟨w0.heap.size + 1 + 1 + 1, 0, none⟩) q m ∧ Kept2 w w0 D (.slice ad m dcap) m q wc) (fun _ k _ => m - (intOf k).toNat)
      case atStart => exact ⟨0, Nat.zero_le _, rfl, rfl, kept2_start hown HB.out (by omega)⟩
      case round =>
        rename World => wc
        obtain ⟨q, hq, rfl, hv, hK⟩ := hrel
        by_cases hqm : q < m
        · obtain ⟨g, rfl⟩ : ∃ g, ad = some ⟨g, 0, none⟩ := by
            rcases hK.own.2 with ⟨h1, h2⟩ | ⟨g, cap', cur, h1, _⟩
            · omega
            · exact ⟨g, by simp at h1; exact h1.1⟩
          obtain ⟨s, hs⟩ : ∃ s, s = D.getD q ByteArray.empty := ⟨_, rfl⟩
          have kq : wc.cell? ⟨g, q, none⟩ = some (.string s) := by
            rw [hK.own.cellAt q (by omega), List.getElem?_map, getD_some (by have := HM.out; omega), ← hs]
            rfl
          have h0 : (0 : Int) ≤ (q : Int) := Int.natCast_nonneg _
          have h1 : (q : Int) < (m : Int) := by omega
          have c0 : wc.cell? ⟨w0.heap.size + 1 + 1, 0, none⟩ = some (.map (some w0.heap.size)) := cellB hK.c
          have hup := update_new hK.g s (by rw [hs]; exact ix_take hnd (by have := HM.out; omega))
          rw [List.length_take_of_le (show q ≤ D.length by have := HM.out; omega)] at hup
          have hnm := own_turned hK.nm (setMap_turned wc w0.heap.size (D.take q ++ [s])) (fun b hb => by simp [Value.ownBlock] at hb; omega)
          have HK : Hid (Kept2 w w0 D (.slice (some ⟨g, 0, none⟩) m dcap) m q wc) := hK
          have HS : Hid (s = D.getD q ByteArray.empty) := hs
          obtain ⟨WM, hWM⟩ : ∃ WM, WM = setMap wc w0.heap.size (D.take q ++ [s]) := ⟨_, rfl⟩
          rw [← hWM] at hup hnm
          rw [← hv] at hnm
          have HV : Hid (u11 = .slice (some ⟨w0.heap.size + 1 + 1 + 1, 0, none⟩) q m) := hv
          have HWM : Hid (WM = setMap wc w0.heap.size (D.take q ++ [s])) := hWM
          clear hK hs hWM hmk hown hnd hv
          go_wp2_with (first | (at_builtin; refine wpList_append_fits _ rfl (.tmp 57) (.tmp 59) 22 rfl w0.heap.size 9 i0 1 Ybaf.underlying22 hi0 hz1 (w0.heap.size + 1 + 1 + 1) q m _ HV.out (by rw [← HV.out]; exact hnm.alloc _) ⟨WM.heap.size, 0, none⟩ 1 1 [.string s] rfl rfl (World.news_of_block (cs := #[.string s]) (t := 9) (fr := (0, 0)) (heap_alloc_new WM _)) (by simp [Value.oneCell']) (by omega) ?_; intro w1 hown1 hgrow))
          go_roundw
          case rel => exact ⟨q + 1, by omega, by go_num, rfl, HK.out.next HM.out hqm HS.out hown1 (by rw [← HWM.out]; exact hgrow)⟩
          case measure => simp [intOf]; omega
        · obtain rfl : q = m := by omega
          subst hv
          have hKg := hK.g
          have hKn := hK.nm
          rw [List.take_of_length_le (by have := HM.out; omega)] at hKg hKn
          have k1 : wc.cell? ⟨w0.heap.size + 1 + 1, 1, none⟩ = some (.slice none 0 0) := cellB hK.c
          have z1 : wc.frozen? ⟨w0.heap.size + 1 + 1, 1, none⟩ = false := freeB hK.c
          have k2 : wc.cell? ⟨w0.heap.size + 1 + 1, 2, none⟩ = some (.pointer none) := cellB hK.c
          have z2 : wc.frozen? ⟨w0.heap.size + 1 + 1, 2, none⟩ = false := freeB hK.c
          have lc : w0.heap.size + 1 + 1 < wc.heap.size := by have := hK.size; omega
          have HK : Hid (Kept2 w w0 D (.slice ad q dcap) q q wc) := hK
          have HG : Hid (wc.heap[w0.heap.size]? = some (.map (entsFrom D 0).toArray D.length)) := hKg
          have HN : Hid (wc.ownsRow w0.heap.size 9 1 (.slice (some ⟨w0.heap.size + 1 + 1 + 1, 0, none⟩) q q) q (D.map Value.string)) := hKn
          have k2' : ∀ v o1 o2, (((wc.setCell ⟨w0.heap.size + 1 + 1, 1, none⟩ v).alloc o1).alloc o2).cell? ⟨w0.heap.size + 1 + 1, 2, none⟩ = some (.pointer none) := fun v o1 o2 => past1 _ (past1 _ ((World.cell?_setCell_other _ _ _ _ (fun hh => by simp at hh)).trans k2))
          have z2' : ∀ v o1 o2, (((wc.setCell ⟨w0.heap.size + 1 + 1, 1, none⟩ v).alloc o1).alloc o2).frozen? ⟨w0.heap.size + 1 + 1, 2, none⟩ = false := fun v o1 o2 => by
            rw [pastz1 _ (by simp; omega), pastz1 _ (by simp; omega), World.frozen?_setCell]
            exact z2
          clear hK hKg hKn hmk hown hnd k2 z2
          go_wp2_with fail
          have hA := atBind_of (e := a2) HK.out HM.out htab
          unfold zFunc zUnit at hA
          obtain ⟨wb, hwb⟩ : ∃ wb, wb = ((((wc.setCell ⟨w0.heap.size + 1 + 1, 1, none⟩ (.slice (some ⟨w0.heap.size + 1 + 1 + 1, 0, none⟩) q q)).alloc zFunc).alloc (zUnit wc.heap.size a2)).setCell ⟨w0.heap.size + 1 + 1, 2, none⟩ (.pointer (some ⟨wc.heap.size + 1, 0, none⟩))) := ⟨_, rfl⟩
          unfold zFunc zUnit at hwb
          rw [← hwb] at hA
          rw [← hwb]
          clear hwb HG HN HK k1 z1 k2' z2' lc
          have hq1 : q ≤ 256 := by omega
          rcases ix_cases D name with ⟨hix, hnin⟩ | ⟨j, hix, hjD⟩
          · refine (bind_miss _ _ _ _ _ _ _ _ _ name _ _ _ _ _ hA.unit hA.globs hix (by omega) h20 h21 (by omega) hA.u1 ?_ ?_ ?_ ?_).mono ?_
            · have := hA.lt; simp only [Value.ownBlock, Option.some.injEq]; omega
            · have := hA.lt; simp only [Value.ownBlock, Option.some.injEq]; omega
            · have := hA.base; have l2 : 2 < w.heap.size := World.block_lt_of_cell? w _ htab.t6_0; simp only [Value.ownBlock, Option.some.injEq]; omega
            · intro b hb; simp [Value.ownBlock] at hb
            rintro r w1 ⟨rfl, wg, hG, hE⟩
            obtain ⟨g, ccap, gn, capn, hB⟩ := bound_miss hA hG hE
            have hDl : (D ++ [name]).length = q + 1 := by have := HM.out; simp; omega
            have HI : Hid (ix D name 0 = -1) := hix
            have hsn : ix (D ++ [name]) name 0 = (q : Int) := by rw [ix_snoc hnin, ← HM.out]
            have b1 := hB.f0; have b2 := hB.i0; have b3 := hB.i1; have b4 := hB.i2; have b5 := hB.i3; have b6 := hB.u0; have b7 := hB.u5; have b8 := hB.c0; have b9 := hB.c1; have b10 := hB.nj
            rw [hDl] at b9
            have hl := fun o => lookup_hit (w := w1.alloc o) (oldB hB.mp) name hsn
            have hlen := fun o => len_globs (w := w1.alloc o) (oldB hB.mp)
            rw [hDl] at hlen
            have lg : g < w1.heap.size := World.block_lt_of_cell? w1 _ hB.i0
            have lgn : gn < w1.heap.size := World.block_lt_of_cell? w1 _ hB.nj
            have lH : wc.heap.size + 1 < w1.heap.size := World.block_lt_of_cell? w1 _ hB.u0
            have lc : w0.heap.size + 1 + 1 < w1.heap.size := World.block_lt_of_cell? w1 _ hB.c0
            have lm : w0.heap.size < w1.heap.size := by omega
            have lF : wc.heap.size < w1.heap.size := by omega
            have hown := hB.own
            have HB' : Hid (Below w.heap.size w w1) := hB.below
            have hww : w.heap.size ≤ w1.heap.size := hB.below.size
            clear hA hG hE hB hix hnin HB hsn
            go_wp2_with fail
            refine (index_own _ _ _ _ name _ hown (by omega)).mono ?_
            rintro r w' ⟨rfl, rfl⟩
            rw [HI.out]
            go_wp2
            go_ret
            exact ⟨rfl, HB'.out.alloc hww _⟩
          · refine (bind_hit _ _ _ _ _ _ _ _ j _ name _ _ _ _ _ hA.unit hA.globs hix ?_ h20 h21 (by omega) hA.u1).mono ?_
            · have := (List.getElem?_eq_some_iff.1 hjD).1; have := HM.out; omega
            rintro r w1 ⟨rfl, hE⟩
            obtain ⟨g, ccap, gn, capn, hB⟩ := bound_hit hA hjD hE
            have hjl : j < q := by have := (List.getElem?_eq_some_iff.1 hjD).1; have := HM.out; omega
            have hDl : D.length = q := HM.out.symm
            have HI : Hid (ix D name 0 = (j : Int)) := hix
            have b1 := hB.f0; have b2 := hB.i0; have b3 := hB.i1; have b4 := hB.i2; have b5 := hB.i3; have b6 := hB.u0; have b7 := hB.u5; have b8 := hB.c0; have b9 := hB.c1; have b10 := hB.nj
            rw [hDl] at b9
            have hl := fun o => lookup_hit (w := w1.alloc o) (oldB hB.mp) name hix
            have hlen := fun o => len_globs (w := w1.alloc o) (oldB hB.mp)
            rw [hDl] at hlen
            have lg : g < w1.heap.size := World.block_lt_of_cell? w1 _ hB.i0
            have lgn : gn < w1.heap.size := World.block_lt_of_cell? w1 _ hB.nj
            have lH : wc.heap.size + 1 < w1.heap.size := World.block_lt_of_cell? w1 _ hB.u0
            have lc : w0.heap.size + 1 + 1 < w1.heap.size := World.block_lt_of_cell? w1 _ hB.c0
            have lm : w0.heap.size < w1.heap.size := by omega
            have lF : wc.heap.size < w1.heap.size := by omega
            have hown := hB.own
            have HB' : Hid (Below w.heap.size w w1) := hB.below
            have hww : w.heap.size ≤ w1.heap.size := hB.below.size
            clear hA hE hB hix hjD HB
            go_wp2_with fail
            refine (index_own _ _ _ _ name _ hown (by omega)).mono ?_
            rintro r w' ⟨rfl, rfl⟩
            rw [HI.out]
            go_wp2
            go_ret
            exact ⟨rfl, HB'.out.alloc hww _⟩

set_option maxRecDepth 100000 in
set_option maxHeartbeats 1000000 in
/-- More than 256 names: true at once. -/
theorem global_long (pao : Option Addr) (n cap : Nat) (a2 : Int) (name : ByteArray) (w : World) (hle : 256 < n) :
    Calls Ybaf.prog 3 #[.slice pao n cap, .string name, .int .u8 a2] w fun r w' => r = .returned (.bool true) ∧ Below w.heap.size w w' := by
  have hni : (n : Int) > 256 := by omega
  go_enter Ybaf.func3, Ybaf.ntmps3
  go_wp2
  go_ret
  exact ⟨rfl, Below.refl _ _⟩
end Go.Proofs.YbulkauoyFmt
