import Derived.Test.YbulkauqoRows
import Derived.WalkKit
import Derived.ProofKit
namespace Go.Proofs.Ybulkauqo
open Go.ChangeShapes Go.WideShapes Go.ChangeAt Go.RowKit

/-! The plain function: JSON's short escape of a byte. -/
def esc (c : Int) : Int :=
  if c = 34 then 34 else if c = 92 then 92 else if c = 8 then 98 else if c = 12 then 102
  else if c = 10 then 110 else if c = 13 then 114 else if c = 9 then 116 else 0

theorem ret_u8 {a b : Int} (h : a = b) : Ending.returned (.int .u8 a) = .returned (.int .u8 b) := by rw [h]

/-- 'shortEscape' (function 5) gives 'esc c' and leaves the world as it is. -/
theorem short_any (c : Int) (w : World) :
    Calls Yba.prog 5 #[.int .u8 c] w fun e w' => e = .returned (.int .u8 (esc c)) ∧ w' = w := by
  go_enter Yba.func5, Yba.ntmps5
  go_wp2
  all_goals
    go_ret
    exact ⟨ret_u8 (by simp_all [esc]), rfl⟩

/-- No entry of the law's own table ahead of place k is c. -/
def missed (k : Nat) (c : Int) : Prop := ∀ j : Nat, j < k → [(34 : Int), 92, 8, 12, 10, 13, 9][j]? ≠ some c
theorem missed_zero (c : Int) : missed 0 c := fun j h => by omega
theorem missed_succ {k : Nat} {c x : Int} (hx : [(34 : Int), 92, 8, 12, 10, 13, 9][k]? = some x) (h : missed k c) (hn : (x == c) = false) : missed (k + 1) c := by
  intro j hj
  by_cases e : j = k
  · subst e; rw [hx]; intro h'; simp at h'; subst h'; simp at hn
  · exact h j (by omega)
theorem missed_all {c : Int} (h : missed 7 c) : esc c = 0 := by
  have h0 := h 0 (by omega); have h1 := h 1 (by omega); have h2 := h 2 (by omega); have h3 := h 3 (by omega)
  have h4 := h 4 (by omega); have h5 := h 5 (by omega); have h6 := h 6 (by omega)
  simp at h0 h1 h2 h3 h4 h5 h6
  unfold esc
  rw [if_neg (by omega), if_neg (by omega), if_neg (by omega), if_neg (by omega), if_neg (by omega), if_neg (by omega), if_neg (by omega)]

/-- The law's own table ('zzs2302aexpect', function 6) gives 'esc c' too. -/
theorem expect_any (c : Int) (w : World) :
    Calls Yba.prog 6 #[.int .u8 c] w fun e w' => e = .returned (.int .u8 (esc c)) ∧ w' = w := by
  go_enter Yba.func6, Yba.ntmps6
  go_wp2
  go_loop [3] (fun i => ∃ k : Nat, k ≤ 7 ∧ i = .int .i64 k ∧ missed k c) (fun i => 7 - (intOf i).toNat)
  case atStart => exact ⟨0, by omega, rfl, missed_zero c⟩
  case round =>
    obtain ⟨k, hk, rfl, hj⟩ := hrel
    have hk' : k = 0 ∨ k = 1 ∨ k = 2 ∨ k = 3 ∨ k = 4 ∨ k = 5 ∨ k = 6 ∨ k = 7 := by omega
    rcases hk' with rfl | rfl | rfl | rfl | rfl | rfl | rfl | rfl
    rotate_right
    · go_wp2
      go_ret
      exact ⟨ret_u8 (missed_all hj).symm, rfl⟩
    all_goals
      go_wp2
      · go_ret
        rename_i hc _
        have hc' := beq_iff_eq.1 hc
        subst hc'
        exact ⟨ret_u8 (by decide +kernel), rfl⟩
      · rename_i hc
        exact ⟨⟨_, by decide, rfl, missed_succ rfl hj hc⟩, by simp [intOf]⟩
end Go.Proofs.Ybulkauqo
