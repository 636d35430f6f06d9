import Derived.Test.YbulkauoyFmtRows
import Derived.WalkKit
import Derived.LaidEql
import Derived.Stop.Asserts
import Derived.RowKitTokens
namespace Go.Proofs.YbulkauoyFmt
open Go.RowKit Go.Extern.Stop Go.Stop Go.Extern Go.Extern.Rtype

/-! errors.Is over a sentinel that fmt.Errorf wraps: after the worked row's text (HOWTO 10.9), with this program's numbers. 89: error; 133: the pointer to errors.errorString (135); 132: the pointer to fmt.wrapError; 120: reflectlite's rtype; 122, 125, 127: the three interfaces that errors.is asks for. -/
theorem isTypeOf (v : Value) (w : World) : (Extern.ReflectliteType.typeOf #[.iface 133 v]).run Ybaf.prog w = .ok (.iface 120 (.agg #[.pointer (some ⟨3, 133, none⟩)])) w := by kernel_rfl
/-- What the model enters at (rtype).Comparable. -/
def cmpE := Extern.ReflectliteType.method fun t => do noPackHeld "Comparable" t; pure (.bool (← typeInfo t).comparable)
theorem isComparable (w : World) : (cmpE #[.agg #[.pointer (some ⟨3, 133, none⟩)]]).run Ybaf.prog w = .ok (.bool true) w := by kernel_rfl
theorem isMethodComparable (v : Value) (w : World) : (Go.method 285 120 v "Comparable").run Ybaf.prog w = .ok (65, v) w := by kernel_rfl
theorem isComp : (Ybaf.prog.info? 133).map (·.comparable) = some true := by kernel_rfl
theorem isSize : (Ybaf.prog.info? 135).map (·.size) = some 1 := by kernel_rfl
theorem noIsE (v : Value) (xT : TypeId) (w : World) : (Instr.typeAssert (.iface 133 v) xT 122 true).run Ybaf.prog w = .ok (.tuple #[.nilIface, .bool false]) w := run_typeAssert_lacksB Ybaf.underlying122 (by kernel_rfl) (by kernel_rfl) v xT w
theorem noIsW (v : Value) (xT : TypeId) (w : World) : (Instr.typeAssert (.iface 132 v) xT 122 true).run Ybaf.prog w = .ok (.tuple #[.nilIface, .bool false]) w := run_typeAssert_lacksB Ybaf.underlying122 (by kernel_rfl) (by kernel_rfl) v xT w
theorem hasUnwrapW (v : Value) (xT : TypeId) (w : World) : (Instr.typeAssert (.iface 132 v) xT 125 true).run Ybaf.prog w = .ok (.tuple #[.iface 132 v, .bool true]) w := run_typeAssert_hasB Ybaf.underlying125 (by kernel_rfl) v xT w
theorem methodUnwrap (v : Value) (w : World) : (Go.method 285 132 v "Unwrap").run Ybaf.prog w = .ok (75, v) w := by kernel_rfl

set_option maxRecDepth 100000 in
set_option maxHeartbeats 1000000 in
/-- errors.Is(e, x), e a wrapper whose second cell holds x itself: true. -/
theorem is_wrap_same (pb po : Nat) (b : Addr) (w : World) (h1 : w.cell? ⟨pb, po + 1, none⟩ = some (.iface 133 (.pointer (some b)))) :
    Calls Ybaf.prog 11 #[.iface 132 (.pointer (some ⟨pb, po, none⟩)), .iface 133 (.pointer (some b))] w fun e w' => e = .returned (.bool true) ∧ w' = w := by
  obtain ⟨i, hi, hcmp⟩ := Option.map_eq_some_iff.1 isComp
  obtain ⟨j, hj, hjs⟩ := Option.map_eq_some_iff.1 isSize
  have h8 := @run_callFunc_extern Ybaf.prog 19 _ Extern.ReflectliteType.typeOf Ybaf.func19 (by kernel_rfl) (by kernel_rfl) (by kernel_rfl) (by kernel_rfl)
  have h32 := @run_callFunc_extern Ybaf.prog 65 _ cmpE Ybaf.func65 (by kernel_rfl) (by kernel_rfl) (by kernel_rfl) (by kernel_rfl)
  have tT := isTypeOf
  have cT := isComparable
  have mR := isMethodComparable
  have nW := noIsW
  have uW := hasUnwrapW
  have mU := methodUnwrap
  have heq := run_eql_iface_ptr_same (P := Ybaf.prog) w b Ybaf.underlying89 Ybaf.underlying133 hi hcmp hj
  have hty := run_eql_iface_types (P := Ybaf.prog) 132 133 (.pointer (some ⟨pb, po, none⟩)) (.pointer (some b)) Ybaf.underlying89 (by decide) w
  go_enter Ybaf.func11, Ybaf.ntmps11
  go_wp2
  refine wp_loop_rounds 2 ?_
  rw [rounds_succ]
  go_wp2
  rw [rounds_succ]
  go_wp2
  go_ret
  exact ⟨rfl, rfl⟩
end Go.Proofs.YbulkauoyFmt
