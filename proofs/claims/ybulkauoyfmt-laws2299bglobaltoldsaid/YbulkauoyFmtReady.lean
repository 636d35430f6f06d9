import Derived.Test.YbulkauoyFmtStart
namespace Go.Proofs.YbulkauoyFmt
open Go.ChangeShapes Go.WideShapes Go.ChangeAt Go.RowKit

/-- What the two listed tables hold, cell by cell, as far as the laws look. -/
structure Tabs (w : World) : Prop where
  o0 : w.cell? ⟨1, 0, none⟩ = some (.int .u8 8)
  o1 : w.cell? ⟨1, 1, none⟩ = some (.int .u8 10)
  t6_0 : w.cell? ⟨2, 36, none⟩ = some (.int .i64 1)
  t6_1 : w.cell? ⟨2, 37, none⟩ = some (.int .i64 1)
  t6_2 : w.cell? ⟨2, 38, none⟩ = some (.int .i64 0)
  t6_3 : w.cell? ⟨2, 39, none⟩ = some (.int .i64 0)
  t6_4 : w.cell? ⟨2, 40, none⟩ = some (.int .i64 0)
  t6_5 : w.cell? ⟨2, 41, none⟩ = some (.int .i64 0)
  t8_0 : w.cell? ⟨2, 48, none⟩ = some (.int .i64 1)
  t8_1 : w.cell? ⟨2, 49, none⟩ = some (.int .i64 1)
  t8_2 : w.cell? ⟨2, 50, none⟩ = some (.int .i64 0)
  t8_3 : w.cell? ⟨2, 51, none⟩ = some (.int .i64 0)
  t8_4 : w.cell? ⟨2, 52, none⟩ = some (.int .i64 0)
  t8_5 : w.cell? ⟨2, 53, none⟩ = some (.int .i64 0)
  t10_0 : w.cell? ⟨2, 60, none⟩ = some (.int .i64 1)
  t10_1 : w.cell? ⟨2, 61, none⟩ = some (.int .i64 1)
  t10_2 : w.cell? ⟨2, 62, none⟩ = some (.int .i64 0)
  t10_3 : w.cell? ⟨2, 63, none⟩ = some (.int .i64 0)
  t10_4 : w.cell? ⟨2, 64, none⟩ = some (.int .i64 0)
  t10_5 : w.cell? ⟨2, 65, none⟩ = some (.int .i64 0)

/-- What lies there at the call of 'bind'. -/
structure Laid3 (w : World) (N p I : Nat) (e : Int) (name : ByteArray) (C : Array Value) (wr : World) : Prop where
  below : Below w.heap.size w wr
  size : wr.heap.size = w.heap.size + 1 + 1 + 1 + 1 + 1 + 1 + 1 + 1 + 1 + 1 + 1 + 1
  g : wr.heap[w.heap.size]? = some (.map #[] 0)
  s : wr.heap[w.heap.size + 1]? = some (.map #[{ key := .string name, val := .pointer (some ⟨w.heap.size + 1 + 1 + 1 + 1 + 1 + 1 + 1 + 1 + 1 + 1 + 1, 0, none⟩), born := 0 }] 1)
  c : wr.heap[w.heap.size + 1 + 1]? = some (.cells #[.map (some (w.heap.size)), .slice none 0 0, .pointer (some ⟨w.heap.size + 1 + 1 + 1 + 1 + 1 + 1 + 1, 0, none⟩), .map (some (w.heap.size + 1))] 30)
  pf : wr.heap[w.heap.size + 1 + 1 + 1]? = some (.cells #[.slice none 0 0, .slice none 0 0, .slice none 0 0, .int .i64 0, .int .i64 0, .int .i64 0, .slice none 0 0, .int .i64 0, .map none, .string ⟨#[]⟩] 38)
  pu : wr.heap[w.heap.size + 1 + 1 + 1 + 1]? = some (.cells #[.pointer (some ⟨w.heap.size + 1 + 1 + 1, 0, none⟩), .pointer none, .int .i64 0, .int .i64 0, .int .i64 0, .int .i64 0, .slice none 0 0, .slice none 0 0, .slice none 0 0] 44)
  code : wr.heap[w.heap.size + 1 + 1 + 1 + 1 + 1]? = some (.cells (zInstr p) 49)
  cf : wr.heap[w.heap.size + 1 + 1 + 1 + 1 + 1 + 1]? = some (.cells #[.slice (some ⟨w.heap.size + 1 + 1 + 1 + 1 + 1, 0, none⟩) p p, .slice none 0 0, .slice none 0 0, .int .i64 0, .int .i64 0, .int .i64 0, .slice none 0 0, .int .i64 1, .map none, .string ⟨#[]⟩] 38)
  cu : wr.heap[w.heap.size + 1 + 1 + 1 + 1 + 1 + 1 + 1]? = some (.cells #[.pointer (some ⟨w.heap.size + 1 + 1 + 1 + 1 + 1 + 1, 0, none⟩), .pointer (some ⟨w.heap.size + 1 + 1 + 1 + 1, 0, none⟩), .int .i64 0, .int .i64 0, .int .i64 0, .int .i64 e, .slice (some ⟨w.heap.size + 1 + 1 + 1 + 1 + 1 + 1 + 1 + 1, 0, none⟩) N N, .slice (some ⟨w.heap.size + 1 + 1 + 1 + 1 + 1 + 1 + 1 + 1 + 1, 0, none⟩) N N, .slice (some ⟨w.heap.size + 1 + 1 + 1 + 1 + 1 + 1 + 1 + 1 + 1 + 1, 0, none⟩) N N] 44)
  xs : wr.heap[w.heap.size + 1 + 1 + 1 + 1 + 1 + 1 + 1 + 1 + 1]? = some (.cells C 3)
  ss : wr.heap[w.heap.size + 1 + 1 + 1 + 1 + 1 + 1 + 1 + 1 + 1 + 1]? = some (.cells (copies N (.slice none 0 0)) 35)
  b : wr.heap[w.heap.size + 1 + 1 + 1 + 1 + 1 + 1 + 1 + 1 + 1 + 1 + 1]? = some (.cells #[.string name, .pointer (some ⟨w.heap.size + 1 + 1 + 1 + 1 + 1 + 1 + 1, 0, none⟩), .int .i64 I, .pointer none, .bool false, .pointer none] 56)

theorem Laid2.put {w : World} {N p I : Nat} {e : Int} {name : ByteArray} {C : Array Value} {wr : World} (h : Laid2 w N p I e name C wr) (j : Nat) (v : Value) : Laid2 w N p I e name (C.setIfInBounds j v) (wr.setCell ⟨w.heap.size + 1 + 1 + 1 + 1 + 1 + 1 + 1 + 1 + 1, j, none⟩ v) :=
  { below := h.below.setCell (by first | (simp; done) | (simp; omega)) _, size := by simpa using h.size
    g := otherB h.g (by first | (simp; done) | (simp; omega))
    s := otherB h.s (by first | (simp; done) | (simp; omega))
    c := otherB h.c (by first | (simp; done) | (simp; omega))
    pf := otherB h.pf (by first | (simp; done) | (simp; omega))
    pu := otherB h.pu (by first | (simp; done) | (simp; omega))
    code := otherB h.code (by first | (simp; done) | (simp; omega))
    cf := otherB h.cf (by first | (simp; done) | (simp; omega))
    cu := otherB h.cu (by first | (simp; done) | (simp; omega))
    ss := otherB h.ss (by first | (simp; done) | (simp; omega))
    b := otherB h.b (by first | (simp; done) | (simp; omega))
    xs := setB h.xs }

theorem turnedB {w w' : World} {S : Nat → Prop} {b : Nat} {o : Obj} (ht : Turned S w w') (h : w.heap[b]? = some o) (hn : ¬ S b) : w'.heap[b]? = some o :=
  (ht.block b (Array.getElem?_eq_some_iff.1 h).1 hn).trans h

theorem laid3_of {w : World} {N p I : Nat} {e : Int} {name : ByteArray} {C : Array Value} {wr : World} (h : Laid2 w N p I e name C wr) :
    Laid3 w N p I e name C ((withEntry wr (w.heap.size + 1) name (.pointer (some ⟨w.heap.size + 1 + 1 + 1 + 1 + 1 + 1 + 1 + 1 + 1 + 1 + 1, 0, none⟩))).setCell ⟨w.heap.size + 1 + 1, 2, none⟩ (.pointer (some ⟨w.heap.size + 1 + 1 + 1 + 1 + 1 + 1 + 1, 0, none⟩))) := by
  have ht := withEntry_turned wr (w.heap.size + 1) name (.pointer (some ⟨w.heap.size + 1 + 1 + 1 + 1 + 1 + 1 + 1 + 1 + 1 + 1 + 1, 0, none⟩))
  exact
  { below := (h.below.trans ((ht.below (B := w.heap.size) (by have := h.size; omega) (fun b hb => by omega)))).setCell (by first | (simp; done) | (simp; omega)) _
    size := by have := h.size; simpa [withEntry] using this
    s := otherB (withEntry_at (by have := h.size; omega)) (by first | (simp; done) | (simp; omega))
    c := setB (turnedB ht h.c (by omega))
    g := otherB (turnedB ht h.g (by omega)) (by first | (simp; done) | (simp; omega))
    pf := otherB (turnedB ht h.pf (by omega)) (by first | (simp; done) | (simp; omega))
    pu := otherB (turnedB ht h.pu (by omega)) (by first | (simp; done) | (simp; omega))
    code := otherB (turnedB ht h.code (by omega)) (by first | (simp; done) | (simp; omega))
    cf := otherB (turnedB ht h.cf (by omega)) (by first | (simp; done) | (simp; omega))
    cu := otherB (turnedB ht h.cu (by omega)) (by first | (simp; done) | (simp; omega))
    xs := otherB (turnedB ht h.xs (by omega)) (by first | (simp; done) | (simp; omega))
    ss := otherB (turnedB ht h.ss (by omega)) (by first | (simp; done) | (simp; omega))
    b := otherB (turnedB ht h.b (by omega)) (by first | (simp; done) | (simp; omega)) }

theorem keepsB {B b o : Nat} {w wr : World} {v : Value} (h : Below B w wr) (hc : w.cell? ⟨b, o, none⟩ = some v) (hb : b < B) : wr.cell? ⟨b, o, none⟩ = some v := (h.cell (p := ⟨b, o, none⟩) hb).trans hc

theorem Laid3.own {w : World} {N p I : Nat} {e : Int} {name : ByteArray} {C : Array Value} {wr : World} (h : Laid3 w N p I e name C wr) (hp : p ≤ 3) :
    wr.ownsRow w.heap.size 49 4 (.slice (some ⟨w.heap.size + 1 + 1 + 1 + 1 + 1, 0, none⟩) p p) p (zInstr p).toList :=
  ⟨by simp [zInstr_size], .inr ⟨w.heap.size + 1 + 1 + 1 + 1 + 1, p, zInstr p, rfl, by omega, h.code, Nat.le_refl _, by unfold maxLen; omega, zInstr_size p, by rw [List.take_of_length_le (by simp [zInstr_size])]⟩⟩

theorem Laid3.unit8 {w : World} {N p I : Nat} {e : Int} {name : ByteArray} {C : Array Value} {wr : World} (h : Laid3 w N p I e name C wr) (ht : Tabs w) (hp : p ≤ 3) :
    UnitAt 48 (w.heap.size + 1 + 1) (w.heap.size + 1 + 1 + 1 + 1 + 1 + 1 + 1) (w.heap.size + 1 + 1 + 1 + 1 + 1 + 1) w.heap.size p e (.slice (some ⟨w.heap.size + 1 + 1 + 1 + 1 + 1, 0, none⟩) p p) (zInstr p).toList wr := by
  have l2 : 2 < w.heap.size := World.block_lt_of_cell? w _ ht.t8_0
  exact
  { c2 := cellB h.c, u0 := cellB h.cu, u2 := cellB h.cu, u3 := cellB h.cu, u5 := cellB h.cu, f0 := cellB h.cf, own := h.own hp
    t0 := keepsB h.below ht.t8_0 l2, t1 := keepsB h.below ht.t8_1 l2, t2 := keepsB h.below ht.t8_2 l2, t3 := keepsB h.below ht.t8_3 l2, t4 := keepsB h.below ht.t8_4 l2, t5 := keepsB h.below ht.t8_5 l2
    z2 := freeB h.cu, z3 := freeB h.cu, z5 := freeB h.cu, zf := freeB h.cf
    nuf := by omega, nu2 := by omega, nf2 := by omega, au := (by simp [Value.ownBlock]), af := (by simp [Value.ownBlock]), a2 := (by intro h; simp only [Value.ownBlock, Option.some.injEq] at h; omega), base_le := by have := h.size; omega }

theorem Laid3.unit10 {w : World} {N p I : Nat} {e : Int} {name : ByteArray} {C : Array Value} {wr : World} (h : Laid3 w N p I e name C wr) (ht : Tabs w) (hp : p ≤ 3) :
    UnitAt 60 (w.heap.size + 1 + 1) (w.heap.size + 1 + 1 + 1 + 1 + 1 + 1 + 1) (w.heap.size + 1 + 1 + 1 + 1 + 1 + 1) w.heap.size p e (.slice (some ⟨w.heap.size + 1 + 1 + 1 + 1 + 1, 0, none⟩) p p) (zInstr p).toList wr := by
  have l2 : 2 < w.heap.size := World.block_lt_of_cell? w _ ht.t8_0
  exact
  { c2 := cellB h.c, u0 := cellB h.cu, u2 := cellB h.cu, u3 := cellB h.cu, u5 := cellB h.cu, f0 := cellB h.cf, own := h.own hp
    t0 := keepsB h.below ht.t10_0 l2, t1 := keepsB h.below ht.t10_1 l2, t2 := keepsB h.below ht.t10_2 l2, t3 := keepsB h.below ht.t10_3 l2, t4 := keepsB h.below ht.t10_4 l2, t5 := keepsB h.below ht.t10_5 l2
    z2 := freeB h.cu, z3 := freeB h.cu, z5 := freeB h.cu, zf := freeB h.cf
    nuf := by omega, nu2 := by omega, nf2 := by omega, au := (by simp [Value.ownBlock]), af := (by simp [Value.ownBlock]), a2 := (by intro h; simp only [Value.ownBlock, Option.some.injEq] at h; omega), base_le := by have := h.size; omega }
end Go.Proofs.YbulkauoyFmt
