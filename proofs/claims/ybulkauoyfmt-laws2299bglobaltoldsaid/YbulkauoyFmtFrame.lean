import Derived.Test.YbulkauoyFmtNewInstr
import Derived.Deep.AppendLies
namespace Go.Proofs.YbulkauoyFmt
open Go.ChangeShapes Go.WideShapes Go.ChangeAt Go.RowKit

/-! A frame by blocks: w' is w but for new blocks and for blocks of which S holds. -/
structure Turned (S : Nat → Prop) (w w' : World) : Prop where
  os : w'.os = w.os
  tape : w'.tape = w.tape
  output : w'.output = w.output
  size : w.heap.size ≤ w'.heap.size
  block : ∀ b, b < w.heap.size → ¬ S b → w'.heap[b]? = w.heap[b]?

theorem Turned.refl (S : Nat → Prop) (w : World) : Turned S w w := ⟨rfl, rfl, rfl, Nat.le_refl _, fun _ _ _ => rfl⟩
theorem Turned.mono {S T : Nat → Prop} {w w' : World} (h : Turned S w w') (hs : ∀ b, b < w.heap.size → S b → T b) : Turned T w w' :=
  ⟨h.os, h.tape, h.output, h.size, fun b hb hn => h.block b hb fun hS => hn (hs b hb hS)⟩
theorem Turned.trans {S : Nat → Prop} {a b c : World} (h : Turned S a b) (k : Turned S b c) : Turned S a c :=
  ⟨k.os.trans h.os, k.tape.trans h.tape, k.output.trans h.output, Nat.le_trans h.size k.size, fun n hn hs => (k.block n (Nat.lt_of_lt_of_le hn h.size) hs).trans (h.block n hn hs)⟩
/-- What turned later turned among the blocks that were there already, or among new ones. -/
theorem Turned.andThen {S T : Nat → Prop} {a b c : World} (h : Turned S a b) (k : Turned T b c) (hT : ∀ n, n < a.heap.size → T n → S n) : Turned S a c :=
  ⟨k.os.trans h.os, k.tape.trans h.tape, k.output.trans h.output, Nat.le_trans h.size k.size, fun n hn hs => (k.block n (Nat.lt_of_lt_of_le hn h.size) fun ht => hs (hT n hn ht)).trans (h.block n hn hs)⟩
theorem Turned.drew {S : Nat → Prop} {a w : World} (h : Turned S a w) : Turned S a w.drew := ⟨h.os, h.tape, h.output, h.size, h.block⟩
theorem Turned.drewN {S : Nat → Prop} {a w : World} {n : Nat} (h : Turned S a w) : Turned S a (w.drewN n) := ⟨h.os, h.tape, h.output, h.size, h.block⟩
theorem Turned.alloc {S : Nat → Prop} {a w : World} (h : Turned S a w) (o : Obj) : Turned S a (w.alloc o) :=
  ⟨h.os, h.tape, h.output, Nat.le_trans h.size (by simp), fun b hb hn => (Below.heap_alloc w o b (Nat.lt_of_lt_of_le hb h.size)).trans (h.block b hb hn)⟩
theorem Turned.setCell {S : Nat → Prop} {a w : World} (h : Turned S a w) {p : Addr} (hp : p.block < a.heap.size → S p.block) (u : Value) : Turned S a (w.setCell p u) :=
  ⟨h.os, h.tape, h.output, by simpa using h.size, fun b hb hn => (Below.heap_setCell w p u b fun e => hn (e ▸ hp (e ▸ hb))).trans (h.block b hb hn)⟩
theorem Turned.grown {S : Nat → Prop} {a w w' : World} {row : Option Nat} (h : Turned S a w) (hg : w.grownBy w' row) (hr : ∀ b, b < a.heap.size → row = some b → S b) : Turned S a w' :=
  ⟨hg.os.trans h.os, hg.tape.trans h.tape, hg.output.trans h.output, Nat.le_trans h.size hg.size,
    fun b hb hn => (hg.block b (Nat.lt_of_lt_of_le hb h.size) fun e => hn (hr b hb e.symm)).trans (h.block b hb hn)⟩
theorem Turned.cell {S : Nat → Prop} {w w' : World} (h : Turned S w w') {b o : Nat} {v : Value} (hc : w.cell? ⟨b, o, none⟩ = some v) (hn : ¬ S b) : w'.cell? ⟨b, o, none⟩ = some v :=
  (World.cell?_of_block (a := ⟨b, o, none⟩) (h.block b (World.block_lt_of_cell? w _ hc) hn)).trans hc
theorem Turned.cellEq {S : Nat → Prop} {w w' : World} (h : Turned S w w') {b o : Nat} (hb : b < w.heap.size) (hn : ¬ S b) : w'.cell? ⟨b, o, none⟩ = w.cell? ⟨b, o, none⟩ :=
  World.cell?_of_block (a := ⟨b, o, none⟩) (h.block b hb hn)
theorem Turned.frozenEq {S : Nat → Prop} {w w' : World} (h : Turned S w w') {b o : Nat} (hb : b < w.heap.size) (hn : ¬ S b) : w'.frozen? ⟨b, o, none⟩ = w.frozen? ⟨b, o, none⟩ :=
  World.frozen?_of_block (a := ⟨b, o, none⟩) (h.block b hb hn)
theorem Turned.below {S : Nat → Prop} {w w' : World} {B : Nat} (h : Turned S w w') (hB : B ≤ w.heap.size) (hS : ∀ b, S b → B ≤ b) : Below B w w' :=
  ⟨h.os, h.tape, h.output, h.size, fun b hb => h.block b (Nat.lt_of_lt_of_le hb hB) fun hs => Nat.not_le_of_lt hb (hS b hs)⟩

theorem past1 {w : World} {a : Addr} {v : Value} (o1 : Obj) (hc : w.cell? a = some v) : (w.alloc o1).cell? a = some v := by
  have h := World.block_lt_of_cell? w _ hc
  exact (((Below.refl _ w).alloc (Nat.le_refl _) o1).cell h).trans hc
theorem past3 {w : World} {a : Addr} {v : Value} (o1 o2 o3 : Obj) (hc : w.cell? a = some v) : (((w.alloc o1).alloc o2).alloc o3).drew.cell? a = some v := past1 _ (past1 _ (past1 _ hc))
theorem pastz1 {w : World} {a : Addr} (o1 : Obj) (h : a.block < w.heap.size) : (w.alloc o1).frozen? a = w.frozen? a :=
  ((Below.refl _ w).alloc (Nat.le_refl _) o1).frozen h
theorem pastz3 {w : World} {a : Addr} (o1 o2 o3 : Obj) (h : a.block < w.heap.size) : (((w.alloc o1).alloc o2).alloc o3).drew.frozen? a = w.frozen? a := by
  show (((w.alloc o1).alloc o2).alloc o3).frozen? a = _
  rw [pastz1 _ (by simp; omega), pastz1 _ (by simp; omega), pastz1 _ h]
theorem new3 (w : World) (o1 o2 o3 : Obj) : (((w.alloc o1).alloc o2).alloc o3).drew.heap[w.heap.size + 1 + 1]? = some o3 := by
  have h := heap_alloc_new ((w.alloc o1).alloc o2) o3
  have e : ((w.alloc o1).alloc o2).heap.size = w.heap.size + 1 + 1 := by simp
  rw [e] at h
  exact h
end Go.Proofs.YbulkauoyFmt
