import Derived.Test.YbulkauoyFmtRows
import Derived.WalkKit
import Derived.ProofKit
import Derived.WalkSpells
import Derived.WalkLawsBesides
namespace Go.Proofs.YbulkauoyFmt
open Go.ChangeShapes Go.WideShapes Go.ChangeAt Go.RowKit

theorem ta_70_64 (v : Value) (w : World) : (Instr.typeAssert (.iface 70 v) 60 64 true).run Ybaf.prog w = .ok (.tuple #[.pointer none, .bool false]) w := by kernel_rfl
theorem ta_70_76 (v : Value) (w : World) : (Instr.typeAssert (.iface 70 v) 60 76 true).run Ybaf.prog w = .ok (.tuple #[.pointer none, .bool false]) w := by kernel_rfl
theorem ta_70_80 (v : Value) (w : World) : (Instr.typeAssert (.iface 70 v) 60 80 true).run Ybaf.prog w = .ok (.tuple #[.agg #[], .bool false]) w := by kernel_rfl
theorem ta_70_81 (v : Value) (w : World) : (Instr.typeAssert (.iface 70 v) 60 81 true).run Ybaf.prog w = .ok (.tuple #[.pointer none, .bool false]) w := by kernel_rfl
theorem ta_70_61 (v : Value) (w : World) : (Instr.typeAssert (.iface 70 v) 60 61 true).run Ybaf.prog w = .ok (.tuple #[.pointer none, .bool false]) w := by kernel_rfl
theorem ta_70_67 (v : Value) (w : World) : (Instr.typeAssert (.iface 70 v) 60 67 true).run Ybaf.prog w = .ok (.tuple #[.pointer none, .bool false]) w := by kernel_rfl
theorem ta_70_70 (v : Value) (w : World) : (Instr.typeAssert (.iface 70 v) 60 70 true).run Ybaf.prog w = .ok (.tuple #[v, .bool true]) w := by kernel_rfl
theorem methodType (v : Value) (w : World) : (Go.method 285 70 v "Type").run Ybaf.prog w = .ok (51, v) w := by kernel_rfl

set_option maxRecDepth 100000 in
set_option maxHeartbeats 1000000 in
/-- 'leafSize' (function 22) of a hash: no leaf. -/
theorem leafSize_hash (v : Value) (w : World) : Calls Ybaf.prog 22 #[.iface 70 v] w fun e w' => e = .returned (.tuple #[.int .i64 0, .bool false]) ∧ w' = w := by
  have t1 := ta_70_64; have t2 := ta_70_76; have t3 := ta_70_80; have t4 := ta_70_81; have t5 := ta_70_61
  go_enter Ybaf.func22, Ybaf.ntmps22
  go_wp2
  exact bodyPost_ret (v := .tuple #[.int .i64 0, .bool false]) (by simp [results, Ybaf.results22, go_sem]) rfl ⟨rfl, rfl⟩

set_option maxRecDepth 100000 in
set_option maxHeartbeats 1000000 in
/-- 'size' (function 17) of a hash: 64 for each entry. -/
theorem size_hash (hb n cap : Nat) (pa : Option Addr) (w : World) (hn : n ≤ 2000000) (h0 : w.cell? ⟨hb, 0, none⟩ = some (.slice pa n cap)) :
    Calls Ybaf.prog 17 #[.iface 70 (.pointer (some ⟨hb, 0, none⟩))] w fun e w' => e = .returned (.int .i64 (64 * (n : Int))) ∧ w' = w := by
  have t1 := ta_70_67; have t2 := ta_70_70
  go_enter Ybaf.func17, Ybaf.ntmps17
  go_wp2_with (go_at_call 22; refine (leafSize_hash _ _).mono ?_; rintro r w' ⟨rfl, rfl⟩)
  go_ret
  exact ⟨rfl, rfl⟩

set_option maxRecDepth 100000 in
set_option maxHeartbeats 1000000 in
/-- 'CheckSize' (function 10) of a hash that fits. -/
theorem check_fits (hb n cap : Nat) (pa : Option Addr) (w : World) (hn : 64 * (n : Int) ≤ 67108864) (h0 : w.cell? ⟨hb, 0, none⟩ = some (.slice pa n cap)) :
    Calls Ybaf.prog 10 #[.iface 70 (.pointer (some ⟨hb, 0, none⟩))] w fun e w' => e = .returned .nilIface ∧ w' = w := by
  have hng : ¬ 64 * (n : Int) > 67108864 := by omega
  go_enter Ybaf.func10, Ybaf.ntmps10
  go_wp2_with (go_at_call 17; refine (size_hash hb n cap pa _ (by omega) h0).mono ?_; rintro r w' ⟨rfl, rfl⟩)
  go_ret
  exact ⟨rfl, rfl⟩
end Go.Proofs.YbulkauoyFmt
