import Derived.Test.YbulkauoyFmtLaid
namespace Go.Proofs.YbulkauoyFmt
open Go.ChangeShapes Go.WideShapes Go.ChangeAt Go.RowKit

theorem laid_start (w : World) (N p : Nat) (e : Int) : Laid w N p e (copies N (.int .i64 0)) ((((((((((w.alloc (.map #[] 0)).alloc (.map #[] 0)).alloc (.cells #[.map (some (w.heap.size)), .slice none 0 0, .pointer none, .map (some (w.heap.size + 1))] 30)).alloc (.cells #[.slice none 0 0, .slice none 0 0, .slice none 0 0, .int .i64 0, .int .i64 0, .int .i64 0, .slice none 0 0, .int .i64 0, .map none, .string ⟨#[]⟩] 38)).alloc (.cells #[.pointer (some ⟨w.heap.size + 1 + 1 + 1, 0, none⟩), .pointer none, .int .i64 0, .int .i64 0, .int .i64 0, .int .i64 0, .slice none 0 0, .slice none 0 0, .slice none 0 0] 44)).alloc (.cells (zInstr p) 49)).alloc (.cells #[.slice (some ⟨w.heap.size + 1 + 1 + 1 + 1 + 1, 0, none⟩) p p, .slice none 0 0, .slice none 0 0, .int .i64 0, .int .i64 0, .int .i64 0, .slice none 0 0, .int .i64 1, .map none, .string ⟨#[]⟩] 38)).alloc (.cells #[.pointer (some ⟨w.heap.size + 1 + 1 + 1 + 1 + 1 + 1, 0, none⟩), .pointer (some ⟨w.heap.size + 1 + 1 + 1 + 1, 0, none⟩), .int .i64 0, .int .i64 0, .int .i64 0, .int .i64 e, .slice (some ⟨w.heap.size + 1 + 1 + 1 + 1 + 1 + 1 + 1 + 1, 0, none⟩) N N, .slice (some ⟨w.heap.size + 1 + 1 + 1 + 1 + 1 + 1 + 1 + 1 + 1, 0, none⟩) N N, .slice none 0 0] 44)).alloc (.cells (copies N (.pointer none)) 53)).alloc (.cells (copies N (.int .i64 0)) 3)) :=
  { below := ((((((((((Below.refl _ w).alloc (Nat.le_refl _) _).alloc (by first | (simp; done) | (simp; omega)) _).alloc (by first | (simp; done) | (simp; omega)) _).alloc (by first | (simp; done) | (simp; omega)) _).alloc (by first | (simp; done) | (simp; omega)) _).alloc (by first | (simp; done) | (simp; omega)) _).alloc (by first | (simp; done) | (simp; omega)) _).alloc (by first | (simp; done) | (simp; omega)) _).alloc (by first | (simp; done) | (simp; omega)) _).alloc (by first | (simp; done) | (simp; omega)) _
    size := by simp
    g := oldB (oldB (oldB (oldB (oldB (oldB (oldB (oldB (oldB (newB (by simp))))))))))
    s := oldB (oldB (oldB (oldB (oldB (oldB (oldB (oldB (newB (by simp)))))))))
    c := oldB (oldB (oldB (oldB (oldB (oldB (oldB (newB (by simp))))))))
    pf := oldB (oldB (oldB (oldB (oldB (oldB (newB (by simp)))))))
    pu := oldB (oldB (oldB (oldB (oldB (newB (by simp))))))
    code := oldB (oldB (oldB (oldB (newB (by simp)))))
    cf := oldB (oldB (oldB (newB (by simp))))
    cu := oldB (oldB (newB (by simp)))
    bd := oldB (newB (by simp))
    xs := newB (by simp) }

theorem laid2_of {w wr : World} {N p I : Nat} {e : Int} {name : ByteArray} {C : Array Value} (h : Laid w N p e C wr) : Laid2 w N p I e name C ((((wr.setCell ⟨w.heap.size + 1 + 1 + 1 + 1 + 1 + 1 + 1, 8, none⟩ (.slice (some ⟨w.heap.size + 1 + 1 + 1 + 1 + 1 + 1 + 1 + 1 + 1 + 1, 0, none⟩) N N)).setCell ⟨w.heap.size + 1 + 1 + 1 + 1 + 1 + 1 + 1 + 1, I, none⟩ (.pointer (some ⟨w.heap.size + 1 + 1 + 1 + 1 + 1 + 1 + 1 + 1 + 1 + 1 + 1, 0, none⟩))).alloc (.cells (copies N (.slice none 0 0)) 35)).alloc (.cells #[.string name, .pointer (some ⟨w.heap.size + 1 + 1 + 1 + 1 + 1 + 1 + 1, 0, none⟩), .int .i64 I, .pointer none, .bool false, .pointer none] 56)) :=
  { below := (((h.below.setCell (by first | (simp; done) | (simp; omega)) _).setCell (by first | (simp; done) | (simp; omega)) _).alloc (by have := h.size; simp; omega) _).alloc (by have := h.size; simp; omega) _
    size := by have := h.size; simp; omega
    g := oldB (oldB (otherB (otherB h.g (by first | (simp; done) | (simp; omega))) (by first | (simp; done) | (simp; omega))))
    s := oldB (oldB (otherB (otherB h.s (by first | (simp; done) | (simp; omega))) (by first | (simp; done) | (simp; omega))))
    c := oldB (oldB (otherB (otherB h.c (by first | (simp; done) | (simp; omega))) (by first | (simp; done) | (simp; omega))))
    pf := oldB (oldB (otherB (otherB h.pf (by first | (simp; done) | (simp; omega))) (by first | (simp; done) | (simp; omega))))
    pu := oldB (oldB (otherB (otherB h.pu (by first | (simp; done) | (simp; omega))) (by first | (simp; done) | (simp; omega))))
    code := oldB (oldB (otherB (otherB h.code (by first | (simp; done) | (simp; omega))) (by first | (simp; done) | (simp; omega))))
    cf := oldB (oldB (otherB (otherB h.cf (by first | (simp; done) | (simp; omega))) (by first | (simp; done) | (simp; omega))))
    xs := oldB (oldB (otherB (otherB h.xs (by first | (simp; done) | (simp; omega))) (by first | (simp; done) | (simp; omega))))
    cu := oldB (oldB (otherB (setB h.cu) (by first | (simp; done) | (simp; omega))))
    ss := oldB (newB (by simpa using h.size))
    b := newB (by simpa using h.size) }
end Go.Proofs.YbulkauoyFmt
