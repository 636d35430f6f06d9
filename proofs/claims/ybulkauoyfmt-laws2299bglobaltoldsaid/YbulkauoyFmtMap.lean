import Derived.Test.YbulkauoyFmtFrame
import Derived.WideMake
namespace Go.Proofs.YbulkauoyFmt
open Go.ChangeShapes Go.WideShapes Go.ChangeAt Go.RowKit

/-- A map of one entry, looked up at its key. -/
theorem lookup_one (w : World) (mb c c' : Nat) (s : ByteArray) (v : Value) (hb : w.heap[mb]? = some (.map #[{ key := .string s, val := v, born := c }] c')) :
    (Instr.lookup 28 (.map (some mb)) (.string s) false).run Ybaf.prog w = .ok v w := by
  have hk : MapKept.IsKey .string (.string s) := by simp [MapKept.IsKey]
  have hc : (Instr.checkKey false 10000 9 (.string s)).run Ybaf.prog w = .ok () w := MapKept.run_checkKey (k := .string s) Ybaf.underlying9 hk false 9999
  have hf : Instr.findNow .string (.string s) [{ key := .string s, val := v, born := c }] 0 = some (some (0, v)) := by
    rcases MapKept.findNow_spec hk [{ key := .string s, val := v, born := c }] 0 (by simp [hk]) with ⟨_, h⟩ | ⟨j, e, h1, h2, _⟩
    · exact absurd rfl (h { key := .string s, val := v, born := c } (by simp))
    · match j, h2 with
      | 0, h2 => simp at h2; subst h2; simpa using h1
      | j + 1, h2 => simp at h2
  simp [Instr.lookup, run_underlying Ybaf.underlying28, MapKept.run_getObj_map hb, hc, MapKept.run_findKey Ybaf.underlying9 hf, Result.andThen]

/-- The world behind the first store into a map that the call made. -/
def withEntry (w : World) (mb : Nat) (s : ByteArray) (v : Value) : World := { w with heap := w.heap.setIfInBounds mb (.map #[{ key := .string s, val := v, born := 0 }] 1) }
theorem update_first (w : World) (mb : Nat) (s : ByteArray) (v : Value) (hb : w.heap[mb]? = some (.map #[] 0)) :
    (Instr.mapUpdate 28 (.map (some mb)) (.string s) v).run Ybaf.prog w = .ok () (withEntry w mb s v) :=
  run_mapUpdate_first w 28 9 53 mb 0 s v Ybaf.underlying28 Ybaf.underlying9 hb
theorem withEntry_at {w : World} {mb : Nat} {s : ByteArray} {v : Value} (h : mb < w.heap.size) : (withEntry w mb s v).heap[mb]? = some (.map #[{ key := .string s, val := v, born := 0 }] 1) := by
  simp [withEntry, h]
theorem withEntry_turned (w : World) (mb : Nat) (s : ByteArray) (v : Value) : Turned (fun b => b = mb) w (withEntry w mb s v) :=
  ⟨rfl, rfl, rfl, by simp [withEntry], fun b _ hn => by simp [withEntry, Ne.symm hn]⟩
end Go.Proofs.YbulkauoyFmt
