import Derived.Test.YbulkauoyRows
import Derived.WalkKit
import Derived.ProofKit
namespace Go.Proofs.Ybulkauoy
open Go.ChangeShapes Go.WideShapes Go.ChangeAt Go.RowKit

/-! 'reach' (function 10; it calls 'leafSize', function 11) at each kind of value that the laws make. -/

/-! What a type switch's tests come to: t31 *String, t34 the stand-in for a function value, t39 *Integer, t42 *Array, t47 nullValue, t51 *Hash, t58 *Boolean, t59 *Builtin. -/
theorem ta_31_39 (v : Value) (w : World) : (Instr.typeAssert (.iface 31 v) 27 39 true).run Yba.prog w = .ok (.tuple #[.pointer none, .bool false]) w := by kernel_rfl
theorem ta_31_58 (v : Value) (w : World) : (Instr.typeAssert (.iface 31 v) 27 58 true).run Yba.prog w = .ok (.tuple #[.pointer none, .bool false]) w := by kernel_rfl
theorem ta_31_47 (v : Value) (w : World) : (Instr.typeAssert (.iface 31 v) 27 47 true).run Yba.prog w = .ok (.tuple #[.agg #[], .bool false]) w := by kernel_rfl
theorem ta_31_59 (v : Value) (w : World) : (Instr.typeAssert (.iface 31 v) 27 59 true).run Yba.prog w = .ok (.tuple #[.pointer none, .bool false]) w := by kernel_rfl
theorem ta_31_31 (v : Value) (w : World) : (Instr.typeAssert (.iface 31 v) 27 31 true).run Yba.prog w = .ok (.tuple #[v, .bool true]) w := by kernel_rfl
theorem ta_34_39 (v : Value) (w : World) : (Instr.typeAssert (.iface 34 v) 27 39 true).run Yba.prog w = .ok (.tuple #[.pointer none, .bool false]) w := by kernel_rfl
theorem ta_34_58 (v : Value) (w : World) : (Instr.typeAssert (.iface 34 v) 27 58 true).run Yba.prog w = .ok (.tuple #[.pointer none, .bool false]) w := by kernel_rfl
theorem ta_34_47 (v : Value) (w : World) : (Instr.typeAssert (.iface 34 v) 27 47 true).run Yba.prog w = .ok (.tuple #[.agg #[], .bool false]) w := by kernel_rfl
theorem ta_34_59 (v : Value) (w : World) : (Instr.typeAssert (.iface 34 v) 27 59 true).run Yba.prog w = .ok (.tuple #[.pointer none, .bool false]) w := by kernel_rfl
theorem ta_34_31 (v : Value) (w : World) : (Instr.typeAssert (.iface 34 v) 27 31 true).run Yba.prog w = .ok (.tuple #[.pointer none, .bool false]) w := by kernel_rfl
theorem ta_34_42 (v : Value) (w : World) : (Instr.typeAssert (.iface 34 v) 27 42 true).run Yba.prog w = .ok (.tuple #[.pointer none, .bool false]) w := by kernel_rfl
theorem ta_34_51 (v : Value) (w : World) : (Instr.typeAssert (.iface 34 v) 27 51 true).run Yba.prog w = .ok (.tuple #[.pointer none, .bool false]) w := by kernel_rfl
theorem ta_39_39 (v : Value) (w : World) : (Instr.typeAssert (.iface 39 v) 27 39 true).run Yba.prog w = .ok (.tuple #[v, .bool true]) w := by kernel_rfl
theorem ta_39_58 (v : Value) (w : World) : (Instr.typeAssert (.iface 39 v) 27 58 true).run Yba.prog w = .ok (.tuple #[.pointer none, .bool false]) w := by kernel_rfl
theorem ta_39_47 (v : Value) (w : World) : (Instr.typeAssert (.iface 39 v) 27 47 true).run Yba.prog w = .ok (.tuple #[.agg #[], .bool false]) w := by kernel_rfl
theorem ta_39_59 (v : Value) (w : World) : (Instr.typeAssert (.iface 39 v) 27 59 true).run Yba.prog w = .ok (.tuple #[.pointer none, .bool false]) w := by kernel_rfl
theorem ta_42_39 (v : Value) (w : World) : (Instr.typeAssert (.iface 42 v) 27 39 true).run Yba.prog w = .ok (.tuple #[.pointer none, .bool false]) w := by kernel_rfl
theorem ta_42_58 (v : Value) (w : World) : (Instr.typeAssert (.iface 42 v) 27 58 true).run Yba.prog w = .ok (.tuple #[.pointer none, .bool false]) w := by kernel_rfl
theorem ta_42_47 (v : Value) (w : World) : (Instr.typeAssert (.iface 42 v) 27 47 true).run Yba.prog w = .ok (.tuple #[.agg #[], .bool false]) w := by kernel_rfl
theorem ta_42_59 (v : Value) (w : World) : (Instr.typeAssert (.iface 42 v) 27 59 true).run Yba.prog w = .ok (.tuple #[.pointer none, .bool false]) w := by kernel_rfl
theorem ta_42_31 (v : Value) (w : World) : (Instr.typeAssert (.iface 42 v) 27 31 true).run Yba.prog w = .ok (.tuple #[.pointer none, .bool false]) w := by kernel_rfl
theorem ta_42_42 (v : Value) (w : World) : (Instr.typeAssert (.iface 42 v) 27 42 true).run Yba.prog w = .ok (.tuple #[v, .bool true]) w := by kernel_rfl
theorem ta_47_39 (v : Value) (w : World) : (Instr.typeAssert (.iface 47 v) 27 39 true).run Yba.prog w = .ok (.tuple #[.pointer none, .bool false]) w := by kernel_rfl
theorem ta_47_58 (v : Value) (w : World) : (Instr.typeAssert (.iface 47 v) 27 58 true).run Yba.prog w = .ok (.tuple #[.pointer none, .bool false]) w := by kernel_rfl
theorem ta_47_47 (v : Value) (w : World) : (Instr.typeAssert (.iface 47 v) 27 47 true).run Yba.prog w = .ok (.tuple #[v, .bool true]) w := by kernel_rfl
theorem ta_47_59 (v : Value) (w : World) : (Instr.typeAssert (.iface 47 v) 27 59 true).run Yba.prog w = .ok (.tuple #[.pointer none, .bool false]) w := by kernel_rfl

theorem reach_string (p : Addr) (s : ByteArray) (w : World) (_hs : s.size ≤ maxLen) (hc : w.cell? p = some (.string s)) :
    Calls Yba.prog 10 #[.iface 31 (.pointer (some p))] w fun e w' => e = .returned (.int .i64 s.size) ∧ w' = w := by
  have a0 := ta_31_39; have a1 := ta_31_58; have a2 := ta_31_47; have a3 := ta_31_59; have a4 := ta_31_31
  go_enter Yba.func10, Yba.ntmps10
  go_wp2
  go_ret
  exact ⟨rfl, rfl⟩

theorem reach_func (p : Addr) (w : World) :
    Calls Yba.prog 10 #[.iface 34 (.pointer (some p))] w fun e w' => e = .returned (.int .i64 1152921504606846976) ∧ w' = w := by
  have a0 := ta_34_39; have a1 := ta_34_58; have a2 := ta_34_47; have a3 := ta_34_59; have a4 := ta_34_31; have a5 := ta_34_42; have a6 := ta_34_51
  go_enter Yba.func10, Yba.ntmps10
  go_wp2
  go_ret
  exact ⟨rfl, rfl⟩

theorem reach_integer (p : Addr) (w : World) :
    Calls Yba.prog 10 #[.iface 39 (.pointer (some p))] w fun e w' => e = .returned (.int .i64 0) ∧ w' = w := by
  have a0 := ta_39_39; have a1 := ta_39_58; have a2 := ta_39_47; have a3 := ta_39_59
  go_enter Yba.func10, Yba.ntmps10
  go_wp2
  go_ret
  exact ⟨rfl, rfl⟩

theorem reach_array (b off : Nat) (r : Int) (w : World) (hc : w.cell? ⟨b, off + 1, none⟩ = some (.int .i64 r)) :
    Calls Yba.prog 10 #[.iface 42 (.pointer (some ⟨b, off, none⟩))] w fun e w' => e = .returned (.int .i64 r) ∧ w' = w := by
  have a0 := ta_42_39; have a1 := ta_42_58; have a2 := ta_42_47; have a3 := ta_42_59; have a4 := ta_42_31; have a5 := ta_42_42
  go_enter Yba.func10, Yba.ntmps10
  go_wp2
  go_ret
  exact ⟨rfl, rfl⟩

theorem reach_null (w : World) :
    Calls Yba.prog 10 #[.iface 47 (.agg #[])] w fun e w' => e = .returned (.int .i64 0) ∧ w' = w := by
  have a0 := ta_47_39; have a1 := ta_47_58; have a2 := ta_47_47; have a3 := ta_47_59
  go_enter Yba.func10, Yba.ntmps10
  go_wp2
  go_ret
  exact ⟨rfl, rfl⟩

end Go.Proofs.Ybulkauoy
