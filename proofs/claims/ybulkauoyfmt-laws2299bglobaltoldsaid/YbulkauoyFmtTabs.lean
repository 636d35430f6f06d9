import Derived.Test.YbulkauoyFmtReady
import Derived.Test.YbulkauoyFmtRows
import Derived.LaidMore
import Derived.OpenShut
import Derived.Stop.Joined
namespace Go.Proofs.YbulkauoyFmt
open Go.ChangeShapes Go.WideShapes Go.ChangeAt Go.RowKit

/-- The two listed variables' names, off the given specification. -/
def nBind : String := Rows.lawS2299BLocalSpec.vars.headD ""
def nOps : String := Rows.lawS2299BLocalSpec.vars.tail.headD ""
theorem Ybaf.gBind : Ybaf.prog.globalNamed nBind = some 1 := by kernel_rfl
theorem Ybaf.gOps : Ybaf.prog.globalNamed nOps = some 2 := by kernel_rfl
theorem Ybaf.tBind : (Ybaf.prog.globals[1]?).map (·.type) = some 102 := by kernel_rfl
theorem Ybaf.tOps : (Ybaf.prog.globals[2]?).map (·.type) = some 116 := by kernel_rfl
theorem Ybaf.c46 : Ybaf.prog.cellsOf 46 = 1 := by kernel_rfl
theorem Ybaf.c115 : Ybaf.prog.cellsOf 115 = 6 := by kernel_rfl
theorem Ybaf.c3 : Ybaf.prog.cellsOf 3 = 1 := by kernel_rfl
theorem Ybaf.c113 : Ybaf.prog.cellsOf 113 = 1 := by kernel_rfl

/-- One element of a row of one-cell values, read. -/
theorem one_of_drop {cs : List Value} {i : Nat} {v : Value} (h : (cs.drop i).take 1 = [v]) : cs[i]? = some v := by
  have h0 : ((cs.drop i).take 1)[0]? = some v := by rw [h]; rfl
  rw [List.getElem?_take_of_lt (by omega), List.getElem?_drop] at h0
  simpa using h0
theorem one_of_drop2 {cs : List Value} {i j n : Nat} {v : Value} (hj : j < n) (h : ((((cs.drop i).take n).drop j).take 1) = [v]) : cs[i + j]? = some v := by
  have h0 := one_of_drop h
  rw [List.getElem?_take_of_lt hj, List.getElem?_drop] at h0
  exact h0
theorem fst_at {H : Type} {xs : List (DataW H × List MemPlace)} {ds : List (DataW H)} (h : xs.map (·.1) = ds) {i : Nat} {d : DataW H} (hd : ds[i]? = some d) : ∃ x, xs[i]? = some x ∧ x.1 = d := by
  subst h
  rw [List.getElem?_map, Option.map_eq_some_iff] at hd
  exact hd

/-- The table's row at op, cell j. -/
theorem ops_cell {W : World} {cs : List Value} {fuel : Nat} {sp : Nat → Bool} {held : Bool} {ps : List MemPlace} {enc : TypeId × Value → Unit} {d : DataW Unit} {ds : List (DataW Unit)} {es : List (DataW Unit)} {op j : Nat} {n : Int}
    (h : DataW.trod enc Ybaf.prog W 0 sp held fuel 116 cs = some (d, ps)) (hd : d = .agg ds) (hop : op < 36) (hes : ds[op]? = some (.agg es)) (hj : j < 6) (hn : es[j]? = some (.lit (.int .i64 n))) : cs[op * 6 + j]? = some (.int .i64 n) := by
  obtain ⟨xs, m1, rfl, hx, hlen, hn36, hel⟩ := DataW.trod_array Ybaf.underlying116 h
  simp only [Prod.mk.injEq] at hx
  rw [hd] at hx
  have hx1 : xs.map (·.1) = ds := by have := hx.1; simp only [DataW.agg.injEq] at this; exact this.symm
  obtain ⟨x, hxo, hxe⟩ := fst_at hx1 hes
  have h1 := hel op hop
  rw [Ybaf.c115, hxo] at h1
  obtain ⟨ys, m2, rfl, hy, hl2, hs2, hf⟩ := DataW.trod_struct Ybaf.underlying115 h1
  rw [hy] at hxe
  have hy1 : ys.map (·.1) = es := by simpa using hxe
  obtain ⟨y, hyo, hye⟩ := fst_at hy1 hn
  have key : ∀ (f : Field) (k : Nat), f.type = 3 → f.offset = k → k < 6 → DataW.trod enc Ybaf.prog W 0 sp held m2 f.type ((((cs.drop (op * 6)).take 6).drop f.offset).take (Ybaf.prog.cellsOf f.type)) = some y → cs[op * 6 + k]? = some (.int .i64 n) := by
    intro f k ht ho hk hr
    rw [ht, ho, Ybaf.c3] at hr
    obtain ⟨n', e1, e2, _⟩ := DataW.trod_int Ybaf.underlying3 hr
    rw [e2] at hye
    simp only [DataW.lit.injEq, Lit.int.injEq] at hye
    rw [← hye.2]
    exact one_of_drop2 hk e1
  have key5 : ∀ (f : Field) (k : Nat), f.type = 113 → f.offset = k → k < 6 → DataW.trod enc Ybaf.prog W 0 sp held m2 f.type ((((cs.drop (op * 6)).take 6).drop f.offset).take (Ybaf.prog.cellsOf f.type)) = some y → cs[op * 6 + k]? = some (.int .i64 n) := by
    intro f k ht ho hk hr
    rw [ht, ho, Ybaf.c113] at hr
    obtain ⟨n', e1, e2, _⟩ := DataW.trod_int Ybaf.underlying113 hr
    rw [e2] at hye
    simp only [DataW.lit.injEq, Lit.int.injEq] at hye
    rw [← hye.2]
    exact one_of_drop2 hk e1
  match j, hj with
  | 0, _ => exact key _ 0 rfl rfl (by decide) ((hf 0 _ rfl).trans hyo)
  | 1, _ => exact key _ 1 rfl rfl (by decide) ((hf 1 _ rfl).trans hyo)
  | 2, _ => exact key _ 2 rfl rfl (by decide) ((hf 2 _ rfl).trans hyo)
  | 3, _ => exact key _ 3 rfl rfl (by decide) ((hf 3 _ rfl).trans hyo)
  | 4, _ => exact key _ 4 rfl rfl (by decide) ((hf 4 _ rfl).trans hyo)
  | 5, _ => exact key5 _ 5 rfl rfl (by decide) ((hf 5 _ rfl).trans hyo)

theorem bind_cell_at {W : World} {cs : List Value} {fuel : Nat} {sp : Nat → Bool} {held : Bool} {ps : List MemPlace} {enc : TypeId × Value → Unit} {d : DataW Unit} {ds : List (DataW Unit)} {i : Nat} {n : Int}
    (h : DataW.trod enc Ybaf.prog W 0 sp held fuel 102 cs = some (d, ps)) (hd : d = .agg ds) (hi : i < 4) (hn : ds[i]? = some (.lit (.int .u8 n))) : cs[i]? = some (.int .u8 n) := by
  obtain ⟨xs, m1, rfl, hx, hlen, hn4, hel⟩ := DataW.trod_array Ybaf.underlying102 h
  simp only [Prod.mk.injEq] at hx
  rw [hd] at hx
  have hx1 : xs.map (·.1) = ds := by have := hx.1; simp only [DataW.agg.injEq] at this; exact this.symm
  obtain ⟨x, hxo, hxe⟩ := fst_at hx1 hn
  have h1 := hel i hi
  rw [Ybaf.c46, hxo, Nat.mul_one] at h1
  obtain ⟨n', e1, e2, _⟩ := DataW.trod_int Ybaf.underlying46 h1
  rw [e2] at hxe
  simp only [DataW.lit.injEq, Lit.int.injEq] at hxe
  rw [← hxe.2]
  exact one_of_drop e1

/-- WHAT THE CONDITION GIVES THE WALKS. -/
theorem tabs_of_laid {W : World} (h : laidMetH Ybaf.prog [(nBind, Rows.laid_example_com_marmot_marmot_pkg_vm_bindOps), (nOps, Rows.laid_example_com_marmot_marmot_pkg_vm_opcodes)] W) : Tabs W := by
  rw [MakeChecks.laidMetH_plain _ _ _ (by kernel_rfl)] at h
  obtain ⟨ps, ⟨g0, t0, cs0, f0, p0, q0, hg0, ht0, hv0, hd0, ⟨g1, t1, cs1, f1, p1, q1, hg1, ht1, hv1, hd1, _, _⟩, _⟩, _, _⟩ := h
  obtain rfl := Option.some.inj (Ybaf.gBind.symm.trans hg0)
  obtain rfl := Option.some.inj (Ybaf.gOps.symm.trans hg1)
  obtain rfl := Option.some.inj (Ybaf.tBind.symm.trans ht0)
  obtain rfl := Option.some.inj (Ybaf.tOps.symm.trans ht1)
  have cell : ∀ (g i : Nat) (cs : Array Value) (v : Value) {nm : String}, Ybaf.prog.globalNamed nm = some g → W.var? Ybaf.prog nm = some cs → cs.toList[i]? = some v → W.cell? ⟨g, i, none⟩ = some v := by
    intro g i cs v nm hg hv hc
    have := World.var?_cell hg hv i
    rw [this]
    simpa using hc
  exact
    { o0 := cell 1 0 _ _ hg0 hv0 (bind_cell_at (i := 0) hd0 rfl (by decide) rfl)
      o1 := cell 1 1 _ _ hg0 hv0 (bind_cell_at (i := 1) hd0 rfl (by decide) rfl)
      t6_0 := cell 2 36 _ _ hg1 hv1 (ops_cell (op := 6) (j := 0) hd1 rfl (by decide) rfl (by decide) rfl)
      t6_1 := cell 2 37 _ _ hg1 hv1 (ops_cell (op := 6) (j := 1) hd1 rfl (by decide) rfl (by decide) rfl)
      t6_2 := cell 2 38 _ _ hg1 hv1 (ops_cell (op := 6) (j := 2) hd1 rfl (by decide) rfl (by decide) rfl)
      t6_3 := cell 2 39 _ _ hg1 hv1 (ops_cell (op := 6) (j := 3) hd1 rfl (by decide) rfl (by decide) rfl)
      t6_4 := cell 2 40 _ _ hg1 hv1 (ops_cell (op := 6) (j := 4) hd1 rfl (by decide) rfl (by decide) rfl)
      t6_5 := cell 2 41 _ _ hg1 hv1 (ops_cell (op := 6) (j := 5) hd1 rfl (by decide) rfl (by decide) rfl)
      t8_0 := cell 2 48 _ _ hg1 hv1 (ops_cell (op := 8) (j := 0) hd1 rfl (by decide) rfl (by decide) rfl)
      t8_1 := cell 2 49 _ _ hg1 hv1 (ops_cell (op := 8) (j := 1) hd1 rfl (by decide) rfl (by decide) rfl)
      t8_2 := cell 2 50 _ _ hg1 hv1 (ops_cell (op := 8) (j := 2) hd1 rfl (by decide) rfl (by decide) rfl)
      t8_3 := cell 2 51 _ _ hg1 hv1 (ops_cell (op := 8) (j := 3) hd1 rfl (by decide) rfl (by decide) rfl)
      t8_4 := cell 2 52 _ _ hg1 hv1 (ops_cell (op := 8) (j := 4) hd1 rfl (by decide) rfl (by decide) rfl)
      t8_5 := cell 2 53 _ _ hg1 hv1 (ops_cell (op := 8) (j := 5) hd1 rfl (by decide) rfl (by decide) rfl)
      t10_0 := cell 2 60 _ _ hg1 hv1 (ops_cell (op := 10) (j := 0) hd1 rfl (by decide) rfl (by decide) rfl)
      t10_1 := cell 2 61 _ _ hg1 hv1 (ops_cell (op := 10) (j := 1) hd1 rfl (by decide) rfl (by decide) rfl)
      t10_2 := cell 2 62 _ _ hg1 hv1 (ops_cell (op := 10) (j := 2) hd1 rfl (by decide) rfl (by decide) rfl)
      t10_3 := cell 2 63 _ _ hg1 hv1 (ops_cell (op := 10) (j := 3) hd1 rfl (by decide) rfl (by decide) rfl)
      t10_4 := cell 2 64 _ _ hg1 hv1 (ops_cell (op := 10) (j := 4) hd1 rfl (by decide) rfl (by decide) rfl)
      t10_5 := cell 2 65 _ _ hg1 hv1 (ops_cell (op := 10) (j := 5) hd1 rfl (by decide) rfl (by decide) rfl) }
end Go.Proofs.YbulkauoyFmt
