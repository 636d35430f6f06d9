import Derived.Test.YbulkauoyFmtIndex
import Derived.Test.YbulkauoyFmtFrame
import Derived.WideMake
namespace Go.Proofs.YbulkauoyFmt
open Go.ChangeShapes Go.WideShapes Go.ChangeAt Go.RowKit

/-! The map of the global names, entry by entry: each name of a list at its place. -/
def entsFrom : List ByteArray → Nat → List MapEntry
  | [], _ => []
  | s :: l, k => { key := .string s, val := .int .i64 k, born := k } :: entsFrom l (k + 1)
theorem ents_length (l : List ByteArray) (k : Nat) : (entsFrom l k).length = l.length := by
  induction l generalizing k with
  | nil => rfl
  | cons s l ih => simp [entsFrom, ih]
theorem ents_snoc (l : List ByteArray) (s : ByteArray) (k : Nat) : entsFrom (l ++ [s]) k = entsFrom l k ++ [{ key := .string s, val := .int .i64 ((k + l.length : Nat) : Int), born := k + l.length }] := by
  induction l generalizing k with
  | nil => simp [entsFrom]
  | cons a l ih => simp only [List.cons_append, entsFrom, ih, List.length_cons, List.cons_append]; rw [show k + 1 + l.length = k + (l.length + 1) from by omega]

theorem same_iff (a s : ByteArray) : (a.toList == s.toList) = true ↔ a = s := by
  constructor
  · intro h
    have h1 : a.data.toList = s.data.toList := by
      have := beq_iff_eq.1 h
      rwa [ByteArray.toList_eq, ByteArray.toList_eq] at this
    cases a; cases s
    simpa using h1
  · intro h; subst h; simp

theorem find_ents (l : List ByteArray) (s : ByteArray) (k i : Nat) :
    (ix l s k = -1 ∧ s ∉ l ∧ Instr.findNow .string (.string s) (entsFrom l k) i = some none) ∨
    ∃ j, ix l s k = ((k + j : Nat) : Int) ∧ l[j]? = some s ∧ Instr.findNow .string (.string s) (entsFrom l k) i = some (some (i + j, .int .i64 ((k + j : Nat) : Int))) := by
  induction l generalizing k i with
  | nil => exact .inl ⟨rfl, by simp, rfl⟩
  | cons a l ih =>
    have ha : MapKept.IsKey .string (.string a) := by simp [MapKept.IsKey]
    have hs : MapKept.IsKey .string (.string s) := by simp [MapKept.IsKey]
    obtain ⟨r, hr, hiff⟩ := MapKept.sameNow_of_keys hs ha
    by_cases e : a = s
    · subst e
      have hr1 : r = true := hiff.2 rfl
      subst hr1
      refine .inr ⟨0, ?_, rfl, ?_⟩
      · rw [ix, if_pos ((same_iff a a).2 rfl)]; simp
      · simp [entsFrom, Instr.findNow, hr]
    · have hr0 : r = false := by
        cases r with
        | false => rfl
        | true => have h1 := hiff.1 rfl; simp only [Value.string.injEq] at h1; exact absurd h1.symm e
      subst hr0
      have hix : ix (a :: l) s k = ix l s (k + 1) := by rw [ix, if_neg (fun h => e ((same_iff a s).1 h))]
      have hf : Instr.findNow .string (.string s) (entsFrom (a :: l) k) i = Instr.findNow .string (.string s) (entsFrom l (k + 1)) (i + 1) := by
        simp [entsFrom, Instr.findNow, hr]
      rcases ih (k + 1) (i + 1) with ⟨h1, h2, h3⟩ | ⟨j, h1, h2, h3⟩
      · exact .inl ⟨hix.trans h1, by simp [h2, Ne.symm e], hf.trans h3⟩
      · refine .inr ⟨j + 1, by rw [hix, h1]; omega, by simpa using h2, ?_⟩
        rw [hf, h3]
        rw [show i + 1 + j = i + (j + 1) from by omega, show k + 1 + j = k + (j + 1) from by omega]

/-- The world with the map at mb holding the names D. -/
def setMap (w : World) (mb : Nat) (D : List ByteArray) : World := { w with heap := w.heap.setIfInBounds mb (.map (entsFrom D 0).toArray D.length) }
theorem setMap_at {w : World} {mb : Nat} {D : List ByteArray} (h : mb < w.heap.size) : (setMap w mb D).heap[mb]? = some (.map (entsFrom D 0).toArray D.length) := by simp [setMap, h]
theorem setMap_turned (w : World) (mb : Nat) (D : List ByteArray) : Turned (fun b => b = mb) w (setMap w mb D) :=
  ⟨rfl, rfl, rfl, by simp [setMap], fun b _ hn => by simp [setMap, Ne.symm hn]⟩

section
variable {w : World} {mb : Nat} {D : List ByteArray}
theorem checkKey_string (em : Bool) (s : ByteArray) (w : World) : (Instr.checkKey em 10000 9 (.string s)).run Ybaf.prog w = .ok () w := MapKept.run_checkKey (k := .string s) Ybaf.underlying9 (by simp [MapKept.IsKey]) em 9999

theorem update_new (hb : w.heap[mb]? = some (.map (entsFrom D 0).toArray D.length)) (s : ByteArray) (hs : ix D s 0 = -1) :
    (Instr.mapUpdate 26 (.map (some mb)) (.string s) (.int .i64 D.length)).run Ybaf.prog w = .ok () (setMap w mb (D ++ [s])) := by
  have hf : Instr.findNow .string (.string s) (entsFrom D 0) 0 = some none := by
    rcases find_ents D s 0 0 with ⟨_, _, h⟩ | ⟨j, h, _⟩
    · exact h
    · rw [hs] at h; omega
  have he : (entsFrom D 0).toArray.push { key := .string s, val := .int .i64 (D.length : Int), born := D.length } = (entsFrom (D ++ [s]) 0).toArray := by
    rw [ents_snoc]; simp
  have hl : D.length + 1 = (D ++ [s]).length := by simp
  simp [Instr.mapUpdate, run_underlying Ybaf.underlying26, MapKept.run_getObj_map hb, checkKey_string, MapKept.run_findKey Ybaf.underlying9 hf, MapKept.run_setObj_map _ hb, Result.andThen, setMap]
  rw [← he]
  simp

theorem lookup_hit (hb : w.heap[mb]? = some (.map (entsFrom D 0).toArray D.length)) (s : ByteArray) {j : Nat} (hs : ix D s 0 = (j : Int)) :
    (Instr.lookup 26 (.map (some mb)) (.string s) true).run Ybaf.prog w = .ok (.tuple #[.int .i64 j, .bool true]) w := by
  have hf : Instr.findNow .string (.string s) (entsFrom D 0) 0 = some (some (j, .int .i64 (j : Int))) := by
    rcases find_ents D s 0 0 with ⟨h, _, _⟩ | ⟨j', h, _, h2⟩
    · rw [hs] at h; omega
    · rw [hs] at h
      obtain rfl : j = 0 + j' := by omega
      rw [h2]
  simp [Instr.lookup, run_underlying Ybaf.underlying26, MapKept.run_getObj_map hb, checkKey_string, MapKept.run_findKey Ybaf.underlying9 hf, Result.andThen]

theorem lookup_miss (hb : w.heap[mb]? = some (.map (entsFrom D 0).toArray D.length)) (s : ByteArray) (hs : ix D s 0 = -1) :
    (Instr.lookup 26 (.map (some mb)) (.string s) true).run Ybaf.prog w = .ok (.tuple #[.int .i64 0, .bool false]) w := by
  have hf : Instr.findNow .string (.string s) (entsFrom D 0) 0 = some none := by
    rcases find_ents D s 0 0 with ⟨_, _, h⟩ | ⟨j, h, _⟩
    · exact h
    · rw [hs] at h; omega
  simp [Instr.lookup, run_underlying Ybaf.underlying26, MapKept.run_getObj_map hb, checkKey_string, MapKept.run_findKey Ybaf.underlying9 hf, Result.andThen]

theorem len_globs (hb : w.heap[mb]? = some (.map (entsFrom D 0).toArray D.length)) : (Builtin.len_ #[26] 3 #[.map (some mb)]).run Ybaf.prog w = .ok (.int .i64 D.length) w := by
  simp [Builtin.len_, run_underlying Ybaf.underlying26, MapKept.run_getObj_map hb, goInt, Result.andThen, ents_length]
end

/-! Facts on the place of a name. -/
theorem ix_cases (l : List ByteArray) (s : ByteArray) : (ix l s 0 = -1 ∧ s ∉ l) ∨ ∃ j : Nat, ix l s 0 = (j : Int) ∧ l[j]? = some s := by
  rcases find_ents l s 0 0 with ⟨h1, h2, _⟩ | ⟨j, h1, h2, _⟩
  · exact .inl ⟨h1, h2⟩
  · exact .inr ⟨j, by simpa using h1, h2⟩
theorem ix_none {l : List ByteArray} {s : ByteArray} (h : s ∉ l) : ix l s 0 = -1 := by
  rcases ix_cases l s with h1 | ⟨j, _, h2⟩
  · exact h1.1
  · exact absurd (List.mem_of_getElem? h2) h
/-- The names in the order of their first place. -/
def firsts (acc : List ByteArray) : List ByteArray → List ByteArray
  | [] => acc
  | s :: l => firsts (if ix acc s 0 < 0 then acc ++ [s] else acc) l
end Go.Proofs.YbulkauoyFmt
