import Derived.Test.YbulkauqoEsc
namespace Go.Proofs.Ybulkauqo

/-! The plain law: over 256 bytes in a row, whatever the first, just seven have a short escape. -/

/-- Has the byte at x (modulo 256) a short escape? -/
def hit (x : Int) : Int := if esc (x % 256) = 0 then 0 else 1
theorem hit_turn (x : Int) : hit (x + 256) = hit x := by
  unfold hit
  rw [show (x + 256) % 256 = x % 256 from by omega]

/-- How many of the first k bytes from s on have a short escape. -/
def cnt (s : Int) : Nat → Int
  | 0 => 0
  | k + 1 => cnt s k + hit (s + k)
theorem cnt_zero (s : Int) : cnt s 0 = 0 := rfl
theorem cnt_succ (s : Int) (k : Nat) : cnt s (k + 1) = cnt s k + hit (s + k) := rfl

theorem cnt_bd (s : Int) (k : Nat) : 0 ≤ cnt s k ∧ cnt s k ≤ k := by
  induction k with
  | zero => exact ⟨Int.le_refl _, Int.le_refl _⟩
  | succ k ih =>
    rw [cnt_succ]
    unfold hit
    split <;> omega

theorem cnt_hit {s : Int} {k : Nat} (h : esc ((s + k) % 256) ≠ 0) : cnt s (k + 1) = cnt s k + 1 := by
  rw [cnt_succ, hit, if_neg h]
theorem cnt_miss {s : Int} {k : Nat} (h : esc ((s + k) % 256) = 0) : cnt s (k + 1) = cnt s k := by
  rw [cnt_succ, hit, if_pos h]; omega

/-- To begin one byte later drops the first and takes one more at the end. -/
theorem cnt_shift (s : Int) (k : Nat) : cnt (s + 1) k + hit s = cnt s (k + 1) := by
  induction k with
  | zero => rw [cnt_succ, cnt_zero, cnt_zero, show s + ((0 : Nat) : Int) = s from by omega]
  | succ k ih =>
    rw [cnt_succ s (k + 1), ← ih, cnt_succ (s + 1) k, show s + 1 + (k : Int) = s + ((k + 1 : Nat) : Int) from by omega]
    omega
theorem cnt_next (s : Int) : cnt (s + 1) 256 = cnt s 256 := by
  have h := cnt_shift s 256
  rw [cnt_succ s 256, show s + ((256 : Nat) : Int) = s + 256 from by omega, hit_turn] at h
  omega
theorem cnt_from0 : cnt 0 256 = 7 := by decide +kernel
theorem cnt_nat (n : Nat) : cnt (n : Int) 256 = 7 := by
  induction n with
  | zero => exact cnt_from0
  | succ n ih => rw [show ((n + 1 : Nat) : Int) = (n : Int) + 1 from by omega, cnt_next, ih]
theorem cnt_all (s : Int) (h0 : 0 ≤ s) : cnt s 256 = 7 := by
  have h := cnt_nat s.toNat
  rw [show ((s.toNat : Nat) : Int) = s from by omega] at h
  exact h
end Go.Proofs.Ybulkauqo
