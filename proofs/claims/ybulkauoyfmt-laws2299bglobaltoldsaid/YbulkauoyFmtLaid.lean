import Derived.Test.YbulkauoyFmtBind
import Derived.Test.YbulkauoyFmtMap
import Derived.Test.YbulkauoyFmtMake
namespace Go.Proofs.YbulkauoyFmt
open Go.ChangeShapes Go.WideShapes Go.ChangeAt Go.RowKit

/-! The blocks that 'LawS2299BLocal' lays, one behind the other. -/
theorem cellB {w : World} {b j : Nat} {cs : Array Value} {t : TypeId} (h : w.heap[b]? = some (.cells cs t)) : w.cell? ⟨b, j, none⟩ = cs[j]? := cell_of_row w b j cs t _ h
theorem freeB {w : World} {b j : Nat} {cs : Array Value} {t : TypeId} (h : w.heap[b]? = some (.cells cs t)) : w.frozen? ⟨b, j, none⟩ = false := by simp [World.frozen?, h]
theorem setB {w : World} {b j : Nat} {cs : Array Value} {t : TypeId} {v : Value} (h : w.heap[b]? = some (.cells cs t)) : (w.setCell ⟨b, j, none⟩ v).heap[b]? = some (.cells (cs.setIfInBounds j v) t) := heap_setCell_same w b j cs t v h
theorem newB {w : World} {b : Nat} {o : Obj} (h : w.heap.size = b) : (w.alloc o).heap[b]? = some o := by subst h; exact heap_alloc_new w o
theorem oldB {w : World} {b : Nat} {o o' : Obj} (h : w.heap[b]? = some o') : (w.alloc o).heap[b]? = some o' := by
  have hb : b < w.heap.size := (Array.getElem?_eq_some_iff.1 h).1
  rw [Below.heap_alloc _ _ _ hb]; exact h
theorem otherB {w : World} {b : Nat} {o' : Obj} {p : Addr} {v : Value} (h : w.heap[b]? = some o') (hne : b ≠ p.block) : (w.setCell p v).heap[b]? = some o' := by
  rw [Below.heap_setCell _ _ _ _ hne]; exact h

/-- What lies there when the loop over the cells begins, and at each of its rounds (C: the row of cells). -/
structure Laid (w : World) (N p : Nat) (e : Int) (C : Array Value) (wr : World) : Prop where
  below : Below w.heap.size w wr
  size : wr.heap.size = w.heap.size + 1 + 1 + 1 + 1 + 1 + 1 + 1 + 1 + 1 + 1
  g : wr.heap[w.heap.size]? = some (.map #[] 0)
  s : wr.heap[w.heap.size + 1]? = some (.map #[] 0)
  c : wr.heap[w.heap.size + 1 + 1]? = some (.cells #[.map (some (w.heap.size)), .slice none 0 0, .pointer none, .map (some (w.heap.size + 1))] 30)
  pf : wr.heap[w.heap.size + 1 + 1 + 1]? = some (.cells #[.slice none 0 0, .slice none 0 0, .slice none 0 0, .int .i64 0, .int .i64 0, .int .i64 0, .slice none 0 0, .int .i64 0, .map none, .string ⟨#[]⟩] 38)
  pu : wr.heap[w.heap.size + 1 + 1 + 1 + 1]? = some (.cells #[.pointer (some ⟨w.heap.size + 1 + 1 + 1, 0, none⟩), .pointer none, .int .i64 0, .int .i64 0, .int .i64 0, .int .i64 0, .slice none 0 0, .slice none 0 0, .slice none 0 0] 44)
  code : wr.heap[w.heap.size + 1 + 1 + 1 + 1 + 1]? = some (.cells (zInstr p) 49)
  cf : wr.heap[w.heap.size + 1 + 1 + 1 + 1 + 1 + 1]? = some (.cells #[.slice (some ⟨w.heap.size + 1 + 1 + 1 + 1 + 1, 0, none⟩) p p, .slice none 0 0, .slice none 0 0, .int .i64 0, .int .i64 0, .int .i64 0, .slice none 0 0, .int .i64 1, .map none, .string ⟨#[]⟩] 38)
  cu : wr.heap[w.heap.size + 1 + 1 + 1 + 1 + 1 + 1 + 1]? = some (.cells #[.pointer (some ⟨w.heap.size + 1 + 1 + 1 + 1 + 1 + 1, 0, none⟩), .pointer (some ⟨w.heap.size + 1 + 1 + 1 + 1, 0, none⟩), .int .i64 0, .int .i64 0, .int .i64 0, .int .i64 e, .slice (some ⟨w.heap.size + 1 + 1 + 1 + 1 + 1 + 1 + 1 + 1, 0, none⟩) N N, .slice (some ⟨w.heap.size + 1 + 1 + 1 + 1 + 1 + 1 + 1 + 1 + 1, 0, none⟩) N N, .slice none 0 0] 44)
  bd : wr.heap[w.heap.size + 1 + 1 + 1 + 1 + 1 + 1 + 1 + 1]? = some (.cells (copies N (.pointer none)) 53)
  xs : wr.heap[w.heap.size + 1 + 1 + 1 + 1 + 1 + 1 + 1 + 1 + 1]? = some (.cells C 3)

theorem Laid.put {w : World} {N p : Nat} {e : Int} {C : Array Value} {wr : World} (h : Laid w N p e C wr) (j : Nat) (v : Value) : Laid w N p e (C.setIfInBounds j v) (wr.setCell ⟨w.heap.size + 1 + 1 + 1 + 1 + 1 + 1 + 1 + 1 + 1, j, none⟩ v) :=
  { below := h.below.setCell (by simp; omega) _, size := by simpa using h.size
    g := otherB h.g (by first | (simp; done) | (simp; omega)), s := otherB h.s (by first | (simp; done) | (simp; omega)), c := otherB h.c (by first | (simp; done) | (simp; omega)), pf := otherB h.pf (by first | (simp; done) | (simp; omega)), pu := otherB h.pu (by first | (simp; done) | (simp; omega))
    code := otherB h.code (by first | (simp; done) | (simp; omega)), cf := otherB h.cf (by first | (simp; done) | (simp; omega)), cu := otherB h.cu (by first | (simp; done) | (simp; omega)), bd := otherB h.bd (by first | (simp; done) | (simp; omega)), xs := setB h.xs }

/-- What lies there ahead of the map's store: the sites' row and the binding are new. -/
structure Laid2 (w : World) (N p I : Nat) (e : Int) (name : ByteArray) (C : Array Value) (wr : World) : Prop where
  below : Below w.heap.size w wr
  size : wr.heap.size = w.heap.size + 1 + 1 + 1 + 1 + 1 + 1 + 1 + 1 + 1 + 1 + 1 + 1
  g : wr.heap[w.heap.size]? = some (.map #[] 0)
  s : wr.heap[w.heap.size + 1]? = some (.map #[] 0)
  c : wr.heap[w.heap.size + 1 + 1]? = some (.cells #[.map (some (w.heap.size)), .slice none 0 0, .pointer none, .map (some (w.heap.size + 1))] 30)
  pf : wr.heap[w.heap.size + 1 + 1 + 1]? = some (.cells #[.slice none 0 0, .slice none 0 0, .slice none 0 0, .int .i64 0, .int .i64 0, .int .i64 0, .slice none 0 0, .int .i64 0, .map none, .string ⟨#[]⟩] 38)
  pu : wr.heap[w.heap.size + 1 + 1 + 1 + 1]? = some (.cells #[.pointer (some ⟨w.heap.size + 1 + 1 + 1, 0, none⟩), .pointer none, .int .i64 0, .int .i64 0, .int .i64 0, .int .i64 0, .slice none 0 0, .slice none 0 0, .slice none 0 0] 44)
  code : wr.heap[w.heap.size + 1 + 1 + 1 + 1 + 1]? = some (.cells (zInstr p) 49)
  cf : wr.heap[w.heap.size + 1 + 1 + 1 + 1 + 1 + 1]? = some (.cells #[.slice (some ⟨w.heap.size + 1 + 1 + 1 + 1 + 1, 0, none⟩) p p, .slice none 0 0, .slice none 0 0, .int .i64 0, .int .i64 0, .int .i64 0, .slice none 0 0, .int .i64 1, .map none, .string ⟨#[]⟩] 38)
  cu : wr.heap[w.heap.size + 1 + 1 + 1 + 1 + 1 + 1 + 1]? = some (.cells #[.pointer (some ⟨w.heap.size + 1 + 1 + 1 + 1 + 1 + 1, 0, none⟩), .pointer (some ⟨w.heap.size + 1 + 1 + 1 + 1, 0, none⟩), .int .i64 0, .int .i64 0, .int .i64 0, .int .i64 e, .slice (some ⟨w.heap.size + 1 + 1 + 1 + 1 + 1 + 1 + 1 + 1, 0, none⟩) N N, .slice (some ⟨w.heap.size + 1 + 1 + 1 + 1 + 1 + 1 + 1 + 1 + 1, 0, none⟩) N N, .slice (some ⟨w.heap.size + 1 + 1 + 1 + 1 + 1 + 1 + 1 + 1 + 1 + 1, 0, none⟩) N N] 44)
  xs : wr.heap[w.heap.size + 1 + 1 + 1 + 1 + 1 + 1 + 1 + 1 + 1]? = some (.cells C 3)
  ss : wr.heap[w.heap.size + 1 + 1 + 1 + 1 + 1 + 1 + 1 + 1 + 1 + 1]? = some (.cells (copies N (.slice none 0 0)) 35)
  b : wr.heap[w.heap.size + 1 + 1 + 1 + 1 + 1 + 1 + 1 + 1 + 1 + 1 + 1]? = some (.cells #[.string name, .pointer (some ⟨w.heap.size + 1 + 1 + 1 + 1 + 1 + 1 + 1, 0, none⟩), .int .i64 I, .pointer none, .bool false, .pointer none] 56)
end Go.Proofs.YbulkauoyFmt
