import Derived.Test.YbulkauoyReach
import Derived.Deep.QuietTactic
import Derived.BigQuiet
namespace Go.Proofs.Ybulkauoy
open Go.ChangeShapes Go.WideShapes Go.ChangeAt Go.RowKit
set_option linter.unusedVariables false      -- a way need not use every cell's mark

/-- 'reach' gives r for the value v, in the world w, and leaves the world as it is. -/
def Reaches (v : Value) (r : Int) (w : World) : Prop := Calls Yba.prog 10 #[v] w fun e w' => e = .returned (.int .i64 r) ∧ w' = w
theorem Reaches.calls {v : Value} {r : Int} {w : World} (h : Reaches v r w) : Calls Yba.prog 10 #[v] w fun e w' => e = .returned (.int .i64 r) ∧ w' = w := h

/-- What 'kept' gives for a value whose reach is r. -/
def keptOf (held names r : Int) : Int := if r = 1152921504606846976 then wrap64 (held + wrap64 (names * 256)) else min held r

theorem ret_i64 {a b : Int} (h : a = b) : Ending.returned (.int .i64 a) = .returned (.int .i64 b) := by rw [h]

theorem kept_any (held names r : Int) (v : Value) (w : World) (hr : Reaches v r w) :
    Calls Yba.prog 9 #[.int .i64 held, .int .i64 names, v] w fun e w' => e = .returned (.int .i64 (keptOf held names r)) ∧ w' = w := by
  go_enter Yba.func9, Yba.ntmps9
  go_wp2_with (go_at_call 10; refine hr.calls.mono ?_; rintro e w' ⟨rfl, rfl⟩)
  · go_ret
    rename_i h1
    exact ⟨ret_i64 (by rw [keptOf, if_pos (beq_iff_eq.1 h1)]), rfl⟩
  · go_ret
    rename_i h1
    exact ⟨ret_i64 (by rw [keptOf, if_neg (beq_eq_false_iff_ne.1 h1)]; omega), rfl⟩
  · go_ret
    rename_i h1
    exact ⟨ret_i64 (by rw [keptOf, if_neg (beq_eq_false_iff_ne.1 h1)]; omega), rfl⟩

def heldOf (b before : Int) : Int := wrap64 (b - before)
/-- What the call leaves its caller holding. -/
def keepOf (b c s sf before names r : Int) : Int :=
  if c < sf then wrap64 (heldOf b before + wrap64 (names * 256))
  else if c < s then max (keptOf (heldOf b before) names r) (heldOf b before)
  else keptOf (heldOf b before) names r
def bytesOf (b c s sf before names r : Int) : Int := if 0 < c then wrap64 (before + keepOf b c s sf before names r) else before
def storedOf (c s : Int) : Int := if c < s then c else s

/-- What 'release' leaves behind: the four fields of the Holding at block hb; and whoever has seen only new blocks up to w sees no more behind. -/
def Released (hb : Nat) (b c s sf before names r : Int) (w w' : World) : Prop :=
  w'.cell? ⟨hb, 0, none⟩ = some (.int .i64 (bytesOf b c s sf before names r)) ∧ w'.cell? ⟨hb, 1, none⟩ = some (.int .i64 c) ∧
  w'.cell? ⟨hb, 2, none⟩ = some (.int .i64 (storedOf c s)) ∧ w'.cell? ⟨hb, 3, none⟩ = some (.int .i64 (storedOf c sf)) ∧
  w'.heap.size = w.heap.size ∧ ∀ W, Grown W w → W.heap.size ≤ hb → Grown W w'

theorem Grown.drewN {W w : World} {n : Nat} (h : Grown W w) : Grown W (w.drewN n) := h

/-! The plain arithmetic of each way. -/
theorem bytes_yes {b c s sf before names r k : Int} (h3 : 0 < c) (hk : keepOf b c s sf before names r = k) : bytesOf b c s sf before names r = wrap64 (before + k) := by
  rw [bytesOf, if_pos h3, hk]
theorem bytes_no {b c s sf before names r : Int} (h3 : ¬ 0 < c) : bytesOf b c s sf before names r = before := by rw [bytesOf, if_neg h3]
theorem keep_func {b c s sf before names r : Int} (h2 : c < sf) : keepOf b c s sf before names r = wrap64 (wrap64 (b - before) + wrap64 (names * 256)) := by
  rw [keepOf, if_pos h2, heldOf]
theorem keep_all {b c s sf before names r : Int} (h2 : ¬ c < sf) (h1 : c < s) (hm : keptOf (wrap64 (b - before)) names r < wrap64 (b - before)) : keepOf b c s sf before names r = wrap64 (b - before) := by
  rw [keepOf, if_neg h2, if_pos h1, heldOf, Int.max_eq_right (Int.le_of_lt hm)]
theorem keep_more {b c s sf before names r : Int} (h2 : ¬ c < sf) (h1 : c < s) (hm : wrap64 (b - before) ≤ keptOf (wrap64 (b - before)) names r) : keepOf b c s sf before names r = keptOf (wrap64 (b - before)) names r := by
  rw [keepOf, if_neg h2, if_pos h1, heldOf, Int.max_eq_left hm]
theorem keep_plain {b c s sf before names r : Int} (h2 : ¬ c < sf) (h1 : ¬ c < s) : keepOf b c s sf before names r = keptOf (wrap64 (b - before)) names r := by
  rw [keepOf, if_neg h2, if_neg h1, heldOf]
theorem stored_yes {c s : Int} (h : c < s) : storedOf c s = c := by rw [storedOf, if_pos h]
theorem stored_no {c s : Int} (h : ¬ c < s) : storedOf c s = s := by rw [storedOf, if_neg h]

theorem release_yyyl (hb : Nat) (b c s sf before names r : Int) (v : Value) (w : World)
    (c0 : w.cell? ⟨hb, 0, none⟩ = some (.int .i64 b)) (c1 : w.cell? ⟨hb, 1, none⟩ = some (.int .i64 c))
    (c2 : w.cell? ⟨hb, 2, none⟩ = some (.int .i64 s)) (c3 : w.cell? ⟨hb, 3, none⟩ = some (.int .i64 sf))
    (f0 : w.frozen? ⟨hb, 0, none⟩ = false) (f2 : w.frozen? ⟨hb, 2, none⟩ = false) (f3 : w.frozen? ⟨hb, 3, none⟩ = false)
    (hr : Reaches v r (w.setCell ⟨hb, 0, none⟩ (.int .i64 before)))
    (h1 : c < s) (h2 : c < sf) (h3 : 0 < c) (hm : keptOf (wrap64 (b - before)) names r < wrap64 (b - before)) :
    Calls Yba.prog 6 #[.pointer (some ⟨hb, 0, none⟩), .int .i64 before, .int .i64 names, v] w fun e w' => e = .returned (.tuple #[]) ∧ Released hb b c s sf before names r w w' := by
  have S1 : Hid (storedOf c s = _) := stored_yes h1
  have S2 : Hid (storedOf c sf = _) := stored_yes h2
  have B : Hid (bytesOf b c s sf before names r = _) := bytes_yes h3 (keep_func h2)
  go_enter Yba.func6, Yba.ntmps6
  go_wp2_with (go_at_call 9; refine (kept_any _ _ r _ _ hr).mono ?_; rintro e w' ⟨rfl, rfl⟩)
  go_quiet (fail)
  go_wp2
  go_quiet (fail)
  go_wp2
  go_end0
  refine ⟨rfl, ?_, ?_, ?_, ?_, ?_, ?_⟩
  · rw [B.out]; go_simp
  · go_simp
  · rw [S1.out]; go_simp
  · rw [S2.out]; go_simp
  · go_simp
  · intro W hW hle; repeat (with_reducible (first | exact hW | refine Grown.setCell ?_ hle _ | refine Grown.drewN ?_))
theorem release_yyyg (hb : Nat) (b c s sf before names r : Int) (v : Value) (w : World)
    (c0 : w.cell? ⟨hb, 0, none⟩ = some (.int .i64 b)) (c1 : w.cell? ⟨hb, 1, none⟩ = some (.int .i64 c))
    (c2 : w.cell? ⟨hb, 2, none⟩ = some (.int .i64 s)) (c3 : w.cell? ⟨hb, 3, none⟩ = some (.int .i64 sf))
    (f0 : w.frozen? ⟨hb, 0, none⟩ = false) (f2 : w.frozen? ⟨hb, 2, none⟩ = false) (f3 : w.frozen? ⟨hb, 3, none⟩ = false)
    (hr : Reaches v r (w.setCell ⟨hb, 0, none⟩ (.int .i64 before)))
    (h1 : c < s) (h2 : c < sf) (h3 : 0 < c) (hm : wrap64 (b - before) ≤ keptOf (wrap64 (b - before)) names r) :
    Calls Yba.prog 6 #[.pointer (some ⟨hb, 0, none⟩), .int .i64 before, .int .i64 names, v] w fun e w' => e = .returned (.tuple #[]) ∧ Released hb b c s sf before names r w w' := by
  have S1 : Hid (storedOf c s = _) := stored_yes h1
  have S2 : Hid (storedOf c sf = _) := stored_yes h2
  have B : Hid (bytesOf b c s sf before names r = _) := bytes_yes h3 (keep_func h2)
  go_enter Yba.func6, Yba.ntmps6
  go_wp2_with (go_at_call 9; refine (kept_any _ _ r _ _ hr).mono ?_; rintro e w' ⟨rfl, rfl⟩)
  go_quiet (fail)
  go_wp2
  go_quiet (fail)
  go_wp2
  go_end0
  refine ⟨rfl, ?_, ?_, ?_, ?_, ?_, ?_⟩
  · rw [B.out]; go_simp
  · go_simp
  · rw [S1.out]; go_simp
  · rw [S2.out]; go_simp
  · go_simp
  · intro W hW hle; repeat (with_reducible (first | exact hW | refine Grown.setCell ?_ hle _ | refine Grown.drewN ?_))
theorem release_yynl (hb : Nat) (b c s sf before names r : Int) (v : Value) (w : World)
    (c0 : w.cell? ⟨hb, 0, none⟩ = some (.int .i64 b)) (c1 : w.cell? ⟨hb, 1, none⟩ = some (.int .i64 c))
    (c2 : w.cell? ⟨hb, 2, none⟩ = some (.int .i64 s)) (c3 : w.cell? ⟨hb, 3, none⟩ = some (.int .i64 sf))
    (f0 : w.frozen? ⟨hb, 0, none⟩ = false) (f2 : w.frozen? ⟨hb, 2, none⟩ = false) (f3 : w.frozen? ⟨hb, 3, none⟩ = false)
    (hr : Reaches v r (w.setCell ⟨hb, 0, none⟩ (.int .i64 before)))
    (h1 : c < s) (h2 : c < sf) (h3 : ¬ 0 < c) (hm : keptOf (wrap64 (b - before)) names r < wrap64 (b - before)) :
    Calls Yba.prog 6 #[.pointer (some ⟨hb, 0, none⟩), .int .i64 before, .int .i64 names, v] w fun e w' => e = .returned (.tuple #[]) ∧ Released hb b c s sf before names r w w' := by
  have S1 : Hid (storedOf c s = _) := stored_yes h1
  have S2 : Hid (storedOf c sf = _) := stored_yes h2
  have B : Hid (bytesOf b c s sf before names r = _) := bytes_no h3
  go_enter Yba.func6, Yba.ntmps6
  go_wp2_with (go_at_call 9; refine (kept_any _ _ r _ _ hr).mono ?_; rintro e w' ⟨rfl, rfl⟩)
  go_quiet (fail)
  go_wp2
  go_quiet (fail)
  go_wp2
  go_end0
  refine ⟨rfl, ?_, ?_, ?_, ?_, ?_, ?_⟩
  · rw [B.out]; go_simp
  · go_simp
  · rw [S1.out]; go_simp
  · rw [S2.out]; go_simp
  · go_simp
  · intro W hW hle; repeat (with_reducible (first | exact hW | refine Grown.setCell ?_ hle _ | refine Grown.drewN ?_))
theorem release_yyng (hb : Nat) (b c s sf before names r : Int) (v : Value) (w : World)
    (c0 : w.cell? ⟨hb, 0, none⟩ = some (.int .i64 b)) (c1 : w.cell? ⟨hb, 1, none⟩ = some (.int .i64 c))
    (c2 : w.cell? ⟨hb, 2, none⟩ = some (.int .i64 s)) (c3 : w.cell? ⟨hb, 3, none⟩ = some (.int .i64 sf))
    (f0 : w.frozen? ⟨hb, 0, none⟩ = false) (f2 : w.frozen? ⟨hb, 2, none⟩ = false) (f3 : w.frozen? ⟨hb, 3, none⟩ = false)
    (hr : Reaches v r (w.setCell ⟨hb, 0, none⟩ (.int .i64 before)))
    (h1 : c < s) (h2 : c < sf) (h3 : ¬ 0 < c) (hm : wrap64 (b - before) ≤ keptOf (wrap64 (b - before)) names r) :
    Calls Yba.prog 6 #[.pointer (some ⟨hb, 0, none⟩), .int .i64 before, .int .i64 names, v] w fun e w' => e = .returned (.tuple #[]) ∧ Released hb b c s sf before names r w w' := by
  have S1 : Hid (storedOf c s = _) := stored_yes h1
  have S2 : Hid (storedOf c sf = _) := stored_yes h2
  have B : Hid (bytesOf b c s sf before names r = _) := bytes_no h3
  go_enter Yba.func6, Yba.ntmps6
  go_wp2_with (go_at_call 9; refine (kept_any _ _ r _ _ hr).mono ?_; rintro e w' ⟨rfl, rfl⟩)
  go_quiet (fail)
  go_wp2
  go_quiet (fail)
  go_wp2
  go_end0
  refine ⟨rfl, ?_, ?_, ?_, ?_, ?_, ?_⟩
  · rw [B.out]; go_simp
  · go_simp
  · rw [S1.out]; go_simp
  · rw [S2.out]; go_simp
  · go_simp
  · intro W hW hle; repeat (with_reducible (first | exact hW | refine Grown.setCell ?_ hle _ | refine Grown.drewN ?_))
theorem release_ynyl (hb : Nat) (b c s sf before names r : Int) (v : Value) (w : World)
    (c0 : w.cell? ⟨hb, 0, none⟩ = some (.int .i64 b)) (c1 : w.cell? ⟨hb, 1, none⟩ = some (.int .i64 c))
    (c2 : w.cell? ⟨hb, 2, none⟩ = some (.int .i64 s)) (c3 : w.cell? ⟨hb, 3, none⟩ = some (.int .i64 sf))
    (f0 : w.frozen? ⟨hb, 0, none⟩ = false) (f2 : w.frozen? ⟨hb, 2, none⟩ = false) (f3 : w.frozen? ⟨hb, 3, none⟩ = false)
    (hr : Reaches v r (w.setCell ⟨hb, 0, none⟩ (.int .i64 before)))
    (h1 : c < s) (h2 : ¬ c < sf) (h3 : 0 < c) (hm : keptOf (wrap64 (b - before)) names r < wrap64 (b - before)) :
    Calls Yba.prog 6 #[.pointer (some ⟨hb, 0, none⟩), .int .i64 before, .int .i64 names, v] w fun e w' => e = .returned (.tuple #[]) ∧ Released hb b c s sf before names r w w' := by
  have S1 : Hid (storedOf c s = _) := stored_yes h1
  have S2 : Hid (storedOf c sf = _) := stored_no h2
  have B : Hid (bytesOf b c s sf before names r = _) := bytes_yes h3 (keep_all h2 h1 hm)
  go_enter Yba.func6, Yba.ntmps6
  go_wp2_with (go_at_call 9; refine (kept_any _ _ r _ _ hr).mono ?_; rintro e w' ⟨rfl, rfl⟩)
  go_quiet (fail)
  go_wp2
  go_quiet (fail)
  go_wp2
  go_end0
  refine ⟨rfl, ?_, ?_, ?_, ?_, ?_, ?_⟩
  · rw [B.out]; go_simp
  · go_simp
  · rw [S1.out]; go_simp
  · rw [S2.out]; go_simp
  · go_simp
  · intro W hW hle; repeat (with_reducible (first | exact hW | refine Grown.setCell ?_ hle _ | refine Grown.drewN ?_))
theorem release_ynyg (hb : Nat) (b c s sf before names r : Int) (v : Value) (w : World)
    (c0 : w.cell? ⟨hb, 0, none⟩ = some (.int .i64 b)) (c1 : w.cell? ⟨hb, 1, none⟩ = some (.int .i64 c))
    (c2 : w.cell? ⟨hb, 2, none⟩ = some (.int .i64 s)) (c3 : w.cell? ⟨hb, 3, none⟩ = some (.int .i64 sf))
    (f0 : w.frozen? ⟨hb, 0, none⟩ = false) (f2 : w.frozen? ⟨hb, 2, none⟩ = false) (f3 : w.frozen? ⟨hb, 3, none⟩ = false)
    (hr : Reaches v r (w.setCell ⟨hb, 0, none⟩ (.int .i64 before)))
    (h1 : c < s) (h2 : ¬ c < sf) (h3 : 0 < c) (hm : wrap64 (b - before) ≤ keptOf (wrap64 (b - before)) names r) :
    Calls Yba.prog 6 #[.pointer (some ⟨hb, 0, none⟩), .int .i64 before, .int .i64 names, v] w fun e w' => e = .returned (.tuple #[]) ∧ Released hb b c s sf before names r w w' := by
  have S1 : Hid (storedOf c s = _) := stored_yes h1
  have S2 : Hid (storedOf c sf = _) := stored_no h2
  have B : Hid (bytesOf b c s sf before names r = _) := bytes_yes h3 (keep_more h2 h1 hm)
  go_enter Yba.func6, Yba.ntmps6
  go_wp2_with (go_at_call 9; refine (kept_any _ _ r _ _ hr).mono ?_; rintro e w' ⟨rfl, rfl⟩)
  go_quiet (fail)
  go_wp2
  go_quiet (fail)
  go_wp2
  go_end0
  refine ⟨rfl, ?_, ?_, ?_, ?_, ?_, ?_⟩
  · rw [B.out]; go_simp
  · go_simp
  · rw [S1.out]; go_simp
  · rw [S2.out]; go_simp
  · go_simp
  · intro W hW hle; repeat (with_reducible (first | exact hW | refine Grown.setCell ?_ hle _ | refine Grown.drewN ?_))
theorem release_ynnl (hb : Nat) (b c s sf before names r : Int) (v : Value) (w : World)
    (c0 : w.cell? ⟨hb, 0, none⟩ = some (.int .i64 b)) (c1 : w.cell? ⟨hb, 1, none⟩ = some (.int .i64 c))
    (c2 : w.cell? ⟨hb, 2, none⟩ = some (.int .i64 s)) (c3 : w.cell? ⟨hb, 3, none⟩ = some (.int .i64 sf))
    (f0 : w.frozen? ⟨hb, 0, none⟩ = false) (f2 : w.frozen? ⟨hb, 2, none⟩ = false) (f3 : w.frozen? ⟨hb, 3, none⟩ = false)
    (hr : Reaches v r (w.setCell ⟨hb, 0, none⟩ (.int .i64 before)))
    (h1 : c < s) (h2 : ¬ c < sf) (h3 : ¬ 0 < c) (hm : keptOf (wrap64 (b - before)) names r < wrap64 (b - before)) :
    Calls Yba.prog 6 #[.pointer (some ⟨hb, 0, none⟩), .int .i64 before, .int .i64 names, v] w fun e w' => e = .returned (.tuple #[]) ∧ Released hb b c s sf before names r w w' := by
  have S1 : Hid (storedOf c s = _) := stored_yes h1
  have S2 : Hid (storedOf c sf = _) := stored_no h2
  have B : Hid (bytesOf b c s sf before names r = _) := bytes_no h3
  go_enter Yba.func6, Yba.ntmps6
  go_wp2_with (go_at_call 9; refine (kept_any _ _ r _ _ hr).mono ?_; rintro e w' ⟨rfl, rfl⟩)
  go_quiet (fail)
  go_wp2
  go_quiet (fail)
  go_wp2
  go_end0
  refine ⟨rfl, ?_, ?_, ?_, ?_, ?_, ?_⟩
  · rw [B.out]; go_simp
  · go_simp
  · rw [S1.out]; go_simp
  · rw [S2.out]; go_simp
  · go_simp
  · intro W hW hle; repeat (with_reducible (first | exact hW | refine Grown.setCell ?_ hle _ | refine Grown.drewN ?_))
theorem release_ynng (hb : Nat) (b c s sf before names r : Int) (v : Value) (w : World)
    (c0 : w.cell? ⟨hb, 0, none⟩ = some (.int .i64 b)) (c1 : w.cell? ⟨hb, 1, none⟩ = some (.int .i64 c))
    (c2 : w.cell? ⟨hb, 2, none⟩ = some (.int .i64 s)) (c3 : w.cell? ⟨hb, 3, none⟩ = some (.int .i64 sf))
    (f0 : w.frozen? ⟨hb, 0, none⟩ = false) (f2 : w.frozen? ⟨hb, 2, none⟩ = false) (f3 : w.frozen? ⟨hb, 3, none⟩ = false)
    (hr : Reaches v r (w.setCell ⟨hb, 0, none⟩ (.int .i64 before)))
    (h1 : c < s) (h2 : ¬ c < sf) (h3 : ¬ 0 < c) (hm : wrap64 (b - before) ≤ keptOf (wrap64 (b - before)) names r) :
    Calls Yba.prog 6 #[.pointer (some ⟨hb, 0, none⟩), .int .i64 before, .int .i64 names, v] w fun e w' => e = .returned (.tuple #[]) ∧ Released hb b c s sf before names r w w' := by
  have S1 : Hid (storedOf c s = _) := stored_yes h1
  have S2 : Hid (storedOf c sf = _) := stored_no h2
  have B : Hid (bytesOf b c s sf before names r = _) := bytes_no h3
  go_enter Yba.func6, Yba.ntmps6
  go_wp2_with (go_at_call 9; refine (kept_any _ _ r _ _ hr).mono ?_; rintro e w' ⟨rfl, rfl⟩)
  go_quiet (fail)
  go_wp2
  go_quiet (fail)
  go_wp2
  go_end0
  refine ⟨rfl, ?_, ?_, ?_, ?_, ?_, ?_⟩
  · rw [B.out]; go_simp
  · go_simp
  · rw [S1.out]; go_simp
  · rw [S2.out]; go_simp
  · go_simp
  · intro W hW hle; repeat (with_reducible (first | exact hW | refine Grown.setCell ?_ hle _ | refine Grown.drewN ?_))
theorem release_nyy (hb : Nat) (b c s sf before names r : Int) (v : Value) (w : World)
    (c0 : w.cell? ⟨hb, 0, none⟩ = some (.int .i64 b)) (c1 : w.cell? ⟨hb, 1, none⟩ = some (.int .i64 c))
    (c2 : w.cell? ⟨hb, 2, none⟩ = some (.int .i64 s)) (c3 : w.cell? ⟨hb, 3, none⟩ = some (.int .i64 sf))
    (f0 : w.frozen? ⟨hb, 0, none⟩ = false) (f2 : w.frozen? ⟨hb, 2, none⟩ = false) (f3 : w.frozen? ⟨hb, 3, none⟩ = false)
    (hr : Reaches v r (w.setCell ⟨hb, 0, none⟩ (.int .i64 before)))
    (h1 : ¬ c < s) (h2 : c < sf) (h3 : 0 < c) :
    Calls Yba.prog 6 #[.pointer (some ⟨hb, 0, none⟩), .int .i64 before, .int .i64 names, v] w fun e w' => e = .returned (.tuple #[]) ∧ Released hb b c s sf before names r w w' := by
  have S1 : Hid (storedOf c s = _) := stored_no h1
  have S2 : Hid (storedOf c sf = _) := stored_yes h2
  have B : Hid (bytesOf b c s sf before names r = _) := bytes_yes h3 (keep_func h2)
  go_enter Yba.func6, Yba.ntmps6
  go_wp2_with (go_at_call 9; refine (kept_any _ _ r _ _ hr).mono ?_; rintro e w' ⟨rfl, rfl⟩)
  go_quiet (fail)
  go_wp2
  go_quiet (fail)
  go_wp2
  go_end0
  refine ⟨rfl, ?_, ?_, ?_, ?_, ?_, ?_⟩
  · rw [B.out]; go_simp
  · go_simp
  · rw [S1.out]; go_simp
  · rw [S2.out]; go_simp
  · go_simp
  · intro W hW hle; repeat (with_reducible (first | exact hW | refine Grown.setCell ?_ hle _ | refine Grown.drewN ?_))
theorem release_nyn (hb : Nat) (b c s sf before names r : Int) (v : Value) (w : World)
    (c0 : w.cell? ⟨hb, 0, none⟩ = some (.int .i64 b)) (c1 : w.cell? ⟨hb, 1, none⟩ = some (.int .i64 c))
    (c2 : w.cell? ⟨hb, 2, none⟩ = some (.int .i64 s)) (c3 : w.cell? ⟨hb, 3, none⟩ = some (.int .i64 sf))
    (f0 : w.frozen? ⟨hb, 0, none⟩ = false) (f2 : w.frozen? ⟨hb, 2, none⟩ = false) (f3 : w.frozen? ⟨hb, 3, none⟩ = false)
    (hr : Reaches v r (w.setCell ⟨hb, 0, none⟩ (.int .i64 before)))
    (h1 : ¬ c < s) (h2 : c < sf) (h3 : ¬ 0 < c) :
    Calls Yba.prog 6 #[.pointer (some ⟨hb, 0, none⟩), .int .i64 before, .int .i64 names, v] w fun e w' => e = .returned (.tuple #[]) ∧ Released hb b c s sf before names r w w' := by
  have S1 : Hid (storedOf c s = _) := stored_no h1
  have S2 : Hid (storedOf c sf = _) := stored_yes h2
  have B : Hid (bytesOf b c s sf before names r = _) := bytes_no h3
  go_enter Yba.func6, Yba.ntmps6
  go_wp2_with (go_at_call 9; refine (kept_any _ _ r _ _ hr).mono ?_; rintro e w' ⟨rfl, rfl⟩)
  go_quiet (fail)
  go_wp2
  go_quiet (fail)
  go_wp2
  go_end0
  refine ⟨rfl, ?_, ?_, ?_, ?_, ?_, ?_⟩
  · rw [B.out]; go_simp
  · go_simp
  · rw [S1.out]; go_simp
  · rw [S2.out]; go_simp
  · go_simp
  · intro W hW hle; repeat (with_reducible (first | exact hW | refine Grown.setCell ?_ hle _ | refine Grown.drewN ?_))
theorem release_nny (hb : Nat) (b c s sf before names r : Int) (v : Value) (w : World)
    (c0 : w.cell? ⟨hb, 0, none⟩ = some (.int .i64 b)) (c1 : w.cell? ⟨hb, 1, none⟩ = some (.int .i64 c))
    (c2 : w.cell? ⟨hb, 2, none⟩ = some (.int .i64 s)) (c3 : w.cell? ⟨hb, 3, none⟩ = some (.int .i64 sf))
    (f0 : w.frozen? ⟨hb, 0, none⟩ = false) (f2 : w.frozen? ⟨hb, 2, none⟩ = false) (f3 : w.frozen? ⟨hb, 3, none⟩ = false)
    (hr : Reaches v r (w.setCell ⟨hb, 0, none⟩ (.int .i64 before)))
    (h1 : ¬ c < s) (h2 : ¬ c < sf) (h3 : 0 < c) :
    Calls Yba.prog 6 #[.pointer (some ⟨hb, 0, none⟩), .int .i64 before, .int .i64 names, v] w fun e w' => e = .returned (.tuple #[]) ∧ Released hb b c s sf before names r w w' := by
  have S1 : Hid (storedOf c s = _) := stored_no h1
  have S2 : Hid (storedOf c sf = _) := stored_no h2
  have B : Hid (bytesOf b c s sf before names r = _) := bytes_yes h3 (keep_plain h2 h1)
  go_enter Yba.func6, Yba.ntmps6
  go_wp2_with (go_at_call 9; refine (kept_any _ _ r _ _ hr).mono ?_; rintro e w' ⟨rfl, rfl⟩)
  go_quiet (fail)
  go_wp2
  go_quiet (fail)
  go_wp2
  go_end0
  refine ⟨rfl, ?_, ?_, ?_, ?_, ?_, ?_⟩
  · rw [B.out]; go_simp
  · go_simp
  · rw [S1.out]; go_simp
  · rw [S2.out]; go_simp
  · go_simp
  · intro W hW hle; repeat (with_reducible (first | exact hW | refine Grown.setCell ?_ hle _ | refine Grown.drewN ?_))
theorem release_nnn (hb : Nat) (b c s sf before names r : Int) (v : Value) (w : World)
    (c0 : w.cell? ⟨hb, 0, none⟩ = some (.int .i64 b)) (c1 : w.cell? ⟨hb, 1, none⟩ = some (.int .i64 c))
    (c2 : w.cell? ⟨hb, 2, none⟩ = some (.int .i64 s)) (c3 : w.cell? ⟨hb, 3, none⟩ = some (.int .i64 sf))
    (f0 : w.frozen? ⟨hb, 0, none⟩ = false) (f2 : w.frozen? ⟨hb, 2, none⟩ = false) (f3 : w.frozen? ⟨hb, 3, none⟩ = false)
    (hr : Reaches v r (w.setCell ⟨hb, 0, none⟩ (.int .i64 before)))
    (h1 : ¬ c < s) (h2 : ¬ c < sf) (h3 : ¬ 0 < c) :
    Calls Yba.prog 6 #[.pointer (some ⟨hb, 0, none⟩), .int .i64 before, .int .i64 names, v] w fun e w' => e = .returned (.tuple #[]) ∧ Released hb b c s sf before names r w w' := by
  have S1 : Hid (storedOf c s = _) := stored_no h1
  have S2 : Hid (storedOf c sf = _) := stored_no h2
  have B : Hid (bytesOf b c s sf before names r = _) := bytes_no h3
  go_enter Yba.func6, Yba.ntmps6
  go_wp2_with (go_at_call 9; refine (kept_any _ _ r _ _ hr).mono ?_; rintro e w' ⟨rfl, rfl⟩)
  go_quiet (fail)
  go_wp2
  go_quiet (fail)
  go_wp2
  go_end0
  refine ⟨rfl, ?_, ?_, ?_, ?_, ?_, ?_⟩
  · rw [B.out]; go_simp
  · go_simp
  · rw [S1.out]; go_simp
  · rw [S2.out]; go_simp
  · go_simp
  · intro W hW hle; repeat (with_reducible (first | exact hW | refine Grown.setCell ?_ hle _ | refine Grown.drewN ?_))

/-- 'release' (function 6), at whatever Holding and whatever value whose reach is r. -/
theorem release_any (hb : Nat) (b c s sf before names r : Int) (v : Value) (w : World)
    (c0 : w.cell? ⟨hb, 0, none⟩ = some (.int .i64 b)) (c1 : w.cell? ⟨hb, 1, none⟩ = some (.int .i64 c))
    (c2 : w.cell? ⟨hb, 2, none⟩ = some (.int .i64 s)) (c3 : w.cell? ⟨hb, 3, none⟩ = some (.int .i64 sf))
    (f0 : w.frozen? ⟨hb, 0, none⟩ = false) (f2 : w.frozen? ⟨hb, 2, none⟩ = false) (f3 : w.frozen? ⟨hb, 3, none⟩ = false)
    (hr : Reaches v r (w.setCell ⟨hb, 0, none⟩ (.int .i64 before))) :
    Calls Yba.prog 6 #[.pointer (some ⟨hb, 0, none⟩), .int .i64 before, .int .i64 names, v] w fun e w' => e = .returned (.tuple #[]) ∧ Released hb b c s sf before names r w w' := by
  by_cases h1 : c < s
  · by_cases hm : keptOf (wrap64 (b - before)) names r < wrap64 (b - before)
    · by_cases h2 : c < sf
      · by_cases h3 : 0 < c
        · exact release_yyyl hb b c s sf before names r v w c0 c1 c2 c3 f0 f2 f3 hr h1 h2 h3 hm
        · exact release_yynl hb b c s sf before names r v w c0 c1 c2 c3 f0 f2 f3 hr h1 h2 h3 hm
      · by_cases h3 : 0 < c
        · exact release_ynyl hb b c s sf before names r v w c0 c1 c2 c3 f0 f2 f3 hr h1 h2 h3 hm
        · exact release_ynnl hb b c s sf before names r v w c0 c1 c2 c3 f0 f2 f3 hr h1 h2 h3 hm
    · by_cases h2 : c < sf
      · by_cases h3 : 0 < c
        · exact release_yyyg hb b c s sf before names r v w c0 c1 c2 c3 f0 f2 f3 hr h1 h2 h3 (Int.not_lt.1 hm)
        · exact release_yyng hb b c s sf before names r v w c0 c1 c2 c3 f0 f2 f3 hr h1 h2 h3 (Int.not_lt.1 hm)
      · by_cases h3 : 0 < c
        · exact release_ynyg hb b c s sf before names r v w c0 c1 c2 c3 f0 f2 f3 hr h1 h2 h3 (Int.not_lt.1 hm)
        · exact release_ynng hb b c s sf before names r v w c0 c1 c2 c3 f0 f2 f3 hr h1 h2 h3 (Int.not_lt.1 hm)
  · by_cases h2 : c < sf
    · by_cases h3 : 0 < c
      · exact release_nyy hb b c s sf before names r v w c0 c1 c2 c3 f0 f2 f3 hr h1 h2 h3
      · exact release_nyn hb b c s sf before names r v w c0 c1 c2 c3 f0 f2 f3 hr h1 h2 h3
    · by_cases h3 : 0 < c
      · exact release_nny hb b c s sf before names r v w c0 c1 c2 c3 f0 f2 f3 hr h1 h2 h3
      · exact release_nnn hb b c s sf before names r v w c0 c1 c2 c3 f0 f2 f3 hr h1 h2 h3
end Go.Proofs.Ybulkauoy
