import Derived.Test.YbulkauoyFmtRows
import Derived.WalkKit
import Derived.ProofKit
import Derived.WalkSpells
import Derived.WalkLawsBesides
namespace Go.Proofs.YbulkauoyFmt
open Go.ChangeShapes Go.WideShapes Go.ChangeAt Go.RowKit

/-- Where s stands first in l, counted from k; -1 where it does not. -/
def ix : List ByteArray → ByteArray → Nat → Int
  | [], _, _ => -1
  | a :: l, s, k => if (a.toList == s.toList) = true then (k : Int) else ix l s (k + 1)

theorem drop_getD {l : List ByteArray} {t : Nat} (h : t < l.length) : l.drop t = l.getD t ByteArray.empty :: l.drop (t + 1) := by
  rw [List.drop_eq_getElem_cons h]
  simp [h]
theorem ix_hit {l : List ByteArray} {s : ByteArray} {t : Nat} (h : t < l.length) (he : ((l.getD t ByteArray.empty).toList == s.toList) = true) : ix (l.drop t) s t = t := by
  rw [drop_getD h, ix, if_pos he]
theorem ix_miss {l : List ByteArray} {s : ByteArray} {t : Nat} (h : t < l.length) (he : ((l.getD t ByteArray.empty).toList == s.toList) = false) : ix (l.drop t) s t = ix (l.drop (t + 1)) s (t + 1) := by
  rw [drop_getD h, ix, if_neg (by rw [he]; decide)]
theorem ix_end {l : List ByteArray} {s : ByteArray} {t : Nat} (h : l.length ≤ t) : ix (l.drop t) s t = -1 := by
  rw [List.drop_of_length_le h, ix]
theorem ret_ix {a b : Int} (h : a = b) : Ending.returned (.int .i64 a) = .returned (.int .i64 b) := by rw [h]

set_option maxHeartbeats 400000 in
/-- 'zzs2299bindex' (function 7) over a row of strings. -/
theorem index_row (g n cap : Nat) (ss : List ByteArray) (s : ByteArray) (w : World) (hn : n = ss.length) (hb : n ≤ 1000)
    (hc : ∀ t, t < n → w.cell? ⟨g, t, none⟩ = some (.string (ss.getD t ByteArray.empty))) :
    Calls Ybaf.prog 7 #[.slice (some ⟨g, 0, none⟩) n cap, .string s] w fun e w' => e = .returned (.int .i64 (ix ss s 0)) ∧ w' = w := by
  have HN : Hid (n = ss.length) := hn
  clear hn
  go_enter Ybaf.func7, Ybaf.ntmps7
  go_wp2
  go_loop [8] (fun k => ∃ t : Nat, t ≤ n ∧ k = .int .i64 t ∧ ix ss s 0 = ix (ss.drop t) s t) (fun k => n - (intOf k).toNat)
  case atStart => exact ⟨0, Nat.zero_le _, rfl, rfl⟩
  case round =>
    obtain ⟨t, ht, rfl, hi⟩ := hrel
    have HI : Hid (ix ss s 0 = ix (ss.drop t) s t) := hi
    clear hi
    by_cases hlt : t < n
    · have kt := hc t hlt
      have h0 : (0 : Int) ≤ (t : Int) := Int.natCast_nonneg _
      have h1 : (t : Int) < (n : Int) := by omega
      obtain ⟨a, ha⟩ : ∃ a, a = ss.getD t ByteArray.empty := ⟨_, rfl⟩
      rw [← ha] at kt
      have HA : Hid (a = ss.getD t ByteArray.empty) := ha
      clear ha hc
      go_wp2
      · go_ret
        have he : (a.toList == s.toList) = true := by assumption
        rw [HA.out] at he
        exact ⟨ret_ix (by rw [HI.out, ix_hit (by have := HN.out; omega) he]), rfl⟩
      · have he : (a.toList == s.toList) = false := by assumption
        rw [HA.out] at he
        exact ⟨⟨t + 1, by omega, by go_num, by rw [HI.out, ix_miss (by have := HN.out; omega) he]⟩, by simp [intOf]; omega⟩
    · go_wp2
      go_ret
      exact ⟨ret_ix (by rw [HI.out, ix_end (by have := HN.out; omega)]), rfl⟩

/-- .. over a nil slice. -/
theorem index_nil (s : ByteArray) (w : World) : Calls Ybaf.prog 7 #[.slice none 0 0, .string s] w fun e w' => e = .returned (.int .i64 (-1)) ∧ w' = w := by
  go_enter Ybaf.func7, Ybaf.ntmps7
  go_wp2
  refine wp_loop_rounds 1 ?_
  rw [rounds_succ]
  go_wp2
  go_ret
  exact ⟨rfl, rfl⟩

/-- .. over a slice that the call owns. -/
theorem index_own (base n : Nat) (v : Value) (ss : List ByteArray) (s : ByteArray) (w : World) (hown : w.ownsRow base 9 1 v n (ss.map Value.string)) (hb : n ≤ 1000) :
    Calls Ybaf.prog 7 #[v, .string s] w fun e w' => e = .returned (.int .i64 (ix ss s 0)) ∧ w' = w := by
  have hlen : ss.length = n := by have := hown.1; simpa using this
  rcases hown.2 with ⟨rfl, rfl⟩ | ⟨g, cap, cur, rfl, _⟩
  · obtain rfl : ss = [] := List.eq_nil_of_length_eq_zero hlen
    exact index_nil s w
  · refine index_row g n cap ss s w hlen.symm hb fun t ht => ?_
    rw [hown.cellAt t (by omega), List.getElem?_map]
    have h1 : ss[t]? = some (ss.getD t ByteArray.empty) := by
      rw [List.getElem?_eq_getElem (by omega)]
      simp [show t < ss.length from by omega]
    rw [h1]
    rfl
end Go.Proofs.YbulkauoyFmt
