import Derived.Test.YbulkauoyFmtReady
namespace Go.Proofs.YbulkauoyFmt
open Go.ChangeShapes Go.WideShapes Go.ChangeAt Go.RowKit

/-- What lies there behind 'emit': the new instruction at place p of the code; all else as it was. -/
structure Coded (w : World) (N p : Nat) (op e x : Int) (w1 : World) (g cap : Nat) : Prop where
  below : Below w.heap.size w w1
  u0 : w1.cell? ⟨w.heap.size + 1 + 1 + 1 + 1 + 1 + 1 + 1, 0, none⟩ = some (.pointer (some ⟨w.heap.size + 1 + 1 + 1 + 1 + 1 + 1, 0, none⟩))
  u5 : w1.cell? ⟨w.heap.size + 1 + 1 + 1 + 1 + 1 + 1 + 1, 5, none⟩ = some (.int .i64 0)
  u8 : w1.cell? ⟨w.heap.size + 1 + 1 + 1 + 1 + 1 + 1 + 1, 8, none⟩ = some (.slice (some ⟨w.heap.size + 1 + 1 + 1 + 1 + 1 + 1 + 1 + 1 + 1 + 1, 0, none⟩) N N)
  f0 : w1.cell? ⟨w.heap.size + 1 + 1 + 1 + 1 + 1 + 1, 0, none⟩ = some (.slice (some ⟨g, 0, none⟩) (p + 1) cap)
  lg : g < w1.heap.size
  ng : g ≠ w.heap.size + 1 + 1 + 1 + 1 + 1 + 1 + 1 + 1 + 1 + 1
  i0 : w1.cell? ⟨g, p * 4, none⟩ = some (.int .u8 op)
  i1 : w1.cell? ⟨g, p * 4 + 1, none⟩ = some (.int .i32 e)
  i2 : w1.cell? ⟨g, p * 4 + 2, none⟩ = some (.int .u32 x)
  i3 : w1.cell? ⟨g, p * 4 + 3, none⟩ = some (.int .u32 0)
  ss : w1.heap[w.heap.size + 1 + 1 + 1 + 1 + 1 + 1 + 1 + 1 + 1 + 1]? = some (.cells (copies N (.slice none 0 0)) 35)
  pu : w1.cell? ⟨w.heap.size + 1 + 1 + 1 + 1, 0, none⟩ = some (.pointer (some ⟨w.heap.size + 1 + 1 + 1, 0, none⟩))
  pf : w1.cell? ⟨w.heap.size + 1 + 1 + 1, 0, none⟩ = some (.slice none 0 0)
  c1 : w1.cell? ⟨w.heap.size + 1 + 1, 1, none⟩ = some (.slice none 0 0)
  c0 : w1.cell? ⟨w.heap.size + 1 + 1, 0, none⟩ = some (.map (some (w.heap.size)))
  g0 : w1.heap[w.heap.size]? = some (.map #[] 0)

theorem coded_of {w : World} {N p I : Nat} {op e e0 x : Int} {name : ByteArray} {C : Array Value} {wb w1 : World} (h : Laid3 w N p I e0 name C wb)
    (hE : Emitted (w.heap.size + 1 + 1 + 1 + 1 + 1 + 1 + 1) (w.heap.size + 1 + 1 + 1 + 1 + 1 + 1) w.heap.size p (.slice (some ⟨w.heap.size + 1 + 1 + 1 + 1 + 1, 0, none⟩) p p) (zInstr p).toList (instr op e x) wb w1) : ∃ g cap, Coded w N p op e x w1 g cap := by
  obtain ⟨g, cap, h1, h2, h3, h4, h5, h6, h7⟩ := hE
  have hz := h.size
  have hn : ∀ b, b ≠ w.heap.size + 1 + 1 + 1 + 1 + 1 + 1 + 1 → b ≠ w.heap.size + 1 + 1 + 1 + 1 + 1 + 1 → b ≠ w.heap.size + 1 + 1 + 1 + 1 + 1 → ¬ (b = w.heap.size + 1 + 1 + 1 + 1 + 1 + 1 + 1 ∨ b = w.heap.size + 1 + 1 + 1 + 1 + 1 + 1 ∨ (Value.slice (some ⟨w.heap.size + 1 + 1 + 1 + 1 + 1, 0, none⟩) p p).ownBlock = some b) := by
    intro b n7 n6 n5 hh
    rcases hh with hh | hh | hh
    · exact n7 hh
    · exact n6 hh
    · simp only [Value.ownBlock, Option.some.injEq] at hh; omega
  have hgl : g < w1.heap.size := by
    obtain ⟨g', cap', hv, _, hlt⟩ := h2.form (by omega)
    simp only [Value.slice.injEq, Option.some.injEq, Addr.mk.injEq] at hv
    omega
  have hlen : (zInstr p).toList.length = p * 4 := by simp [zInstr_size]
  have hat : ∀ k, k < 4 → w1.cell? ⟨g, p * 4 + k, none⟩ = (instr op e x)[k]? := by
    intro k hk
    rw [h2.cellAt (p * 4 + k) (by omega), List.getElem?_append_right (by omega), hlen, show p * 4 + k - p * 4 = k from by omega]
  refine ⟨g, cap, ?_⟩
  exact
  { below := h.below.trans (h7.below (B := w.heap.size) (by omega) (fun b hb => by
      rcases hb with hb | hb | hb
      · omega
      · omega
      · simp only [Value.ownBlock, Option.some.injEq] at hb; omega))
    u0 := (h5 0 (by decide) (by decide) (by decide)).trans (cellB h.cu)
    u5 := h4
    u8 := (h5 8 (by decide) (by decide) (by decide)).trans (cellB h.cu)
    f0 := h1
    lg := hgl
    ng := by
      rcases h3 with h3 | h3
      · simp only [Value.ownBlock, Option.some.injEq] at h3; omega
      · omega
    i0 := hat 0 (by decide)
    i1 := hat 1 (by decide)
    i2 := hat 2 (by decide)
    i3 := hat 3 (by decide)
    ss := turnedB h7 h.ss (hn _ (by omega) (by omega) (by omega))
    pu := cellB (turnedB h7 h.pu (hn _ (by omega) (by omega) (by omega)))
    pf := cellB (turnedB h7 h.pf (hn _ (by omega) (by omega) (by omega)))
    c1 := cellB (turnedB h7 h.c (hn _ (by omega) (by omega) (by omega)))
    c0 := cellB (turnedB h7 h.c (hn _ (by omega) (by omega) (by omega)))
    g0 := turnedB h7 h.g (hn _ (by omega) (by omega) (by omega)) }
end Go.Proofs.YbulkauoyFmt
