import Derived.Test.YbulkauoyFmtRows
import Derived.WalkKit
import Derived.ProofKit
import Derived.WalkSpells
import Derived.WalkLawsBesides
import Derived.Stop.CallBack
import Derived.Stop.IfaceNil
import GoSem.ClaimData
namespace Go.Proofs.YbulkauoyFmt
open Go.RowKit Go.Extern.Stop Go.Stop Go.Extern

/-! The closed facts for one call of fmt.Errorf (functions 23 and 24), after the worked rows' texts, with this program's numbers. 133: the pointer to errors.errorString; 132: the pointer to fmt.wrapError (171); 105: object.Type. -/
theorem call24 (args : Array Value) (w : World) : (callFunc 24 args).run Ybaf.prog w = ((FmtStop.errorf #[9, 130] #[89] args).run Ybaf.prog w).andThen fun v w' => .ok (.value v) w' :=
  run_callFunc_extern Ybaf.func24 (by kernel_rfl) (by kernel_rfl) (by kernel_rfl) (by kernel_rfl) args w
theorem fguard (name : String) (w : World) : (FmtStop.guard name).run Ybaf.prog w = .ok () w := by kernel_rfl
theorem fmt0 : FmtStop.printed? ⟨#[37, 119, 58, 32, 37, 115, 32, 111, 102, 32, 37, 100, 32, 98, 121, 116, 101, 115, 44, 32, 109, 111, 114, 101, 32, 116, 104, 97, 110, 32, 37, 100]⟩ 4 = some [(0, 119, false), (1, 115, false), (2, 100, false), (3, 100, false)] := by kernel_rfl
theorem fmt0r (w : World) : (FmtDoors.printed ⟨#[37, 119, 58, 32, 37, 115, 32, 111, 102, 32, 37, 100, 32, 98, 121, 116, 101, 115, 44, 32, 109, 111, 114, 101, 32, 116, 104, 97, 110, 32, 37, 100]⟩ 4).run Ybaf.prog w = .ok [(0, 119, false), (1, 115, false), (2, 100, false), (3, 100, false)] w := by kernel_rfl
def shape3 : List UInt8 := [5, 3, 0, 0, 0, 0, 0, 0, 0, 105, 110, 116]
theorem op3_100w (name : String) (x : Int) (w : World) : (FmtStop.operand name true 100 false (.iface 3 (.int .i64 x))).run Ybaf.prog w = .ok (shape3, Go.Extern.Stop.digits 8 (x % 2 ^ 64).toNat) w := by kernel_rfl
def shape105 : List UInt8 := [12, 11, 0, 0, 0, 0, 0, 0, 0, 111, 98, 106, 101, 99, 116, 46, 84, 121, 112, 101]
theorem op105_115w (name : String) (x : ByteArray) (w : World) : (FmtStop.operand name true 115 false (.iface 105 (.string x))).run Ybaf.prog w = .ok (shape105, FmtStop.pack x.data.toList) w := by kernel_rfl
theorem ptr133 (w : World) : (FmtStop.ptrTo "errors.errorString").run Ybaf.prog w = .ok 133 w := by kernel_rfl
theorem elem133 (w : World) : (elemOf 133).run Ybaf.prog w = .ok 135 w := by kernel_rfl
theorem isError133 (w : World) : (FmtDoors.textMethod 133 "Error").run Ybaf.prog w = .ok true w := by kernel_rfl
def plain133 : List UInt8 := 14 :: FmtStop.pack "*errors.errorString".toUTF8.data.toList
theorem opPlain133_119w (name : String) (a : Addr) (s : ByteArray) (w : World) (hc : w.cell? a = some (.string s)) :
    (FmtStop.operand name true 119 false (.iface 133 (.pointer (some a)))).run Ybaf.prog w = .ok (plain133, s.data.toList) w := by
  have h1 : (typeStr 133).run Ybaf.prog w = .ok "*errors.errorString" w := by kernel_rfl
  have d2 : Ybaf.t133.desc = .pointer 135 := rfl
  have d3 : Ybaf.t135.desc = .named "errors.errorString" 134 := rfl
  simp [FmtStop.operand, h1, d2, d3, run_load, hc, plain133]
theorem ptr132 (w : World) : (FmtStop.ptrTo "fmt.wrapError").run Ybaf.prog w = .ok 132 w := by kernel_rfl
theorem elem132 (w : World) : (elemOf 132).run Ybaf.prog w = .ok 171 w := by kernel_rfl
theorem isError132 (w : World) : (FmtDoors.textMethod 132 "Error").run Ybaf.prog w = .ok true w := by kernel_rfl

set_option maxRecDepth 100000 in
set_option maxHeartbeats 1000000 in
/-- 'tooLarge' (function 18): a new wrapper of the sentinel; fmt's text is whatever fmt gives. -/
theorem tooLarge_wraps (F : Interp) (t : ByteArray) (n : Int) (a : Addr) (s : ByteArray) (w : World) (hF : F.answers w.tape) (hg : w.cell? ⟨0, 0, none⟩ = some (.iface 133 (.pointer (some a))))
    (hs : (w.alloc (.cells #[.iface 133 (.pointer (some a)), .iface 105 (.string t), .iface 3 (.int .i64 n), .iface 3 (.int .i64 67108864)] 20)).cell? a = some (.string s)) :
    Calls Ybaf.prog 18 #[.string t, .int .i64 n] w fun e w' => e = .returned (.iface 132 (.pointer (some ⟨w.heap.size + 1, 0, none⟩))) ∧
      ∃ text, w' = ((w.alloc (.cells #[.iface 133 (.pointer (some a)), .iface 105 (.string t), .iface 3 (.int .i64 n), .iface 3 (.int .i64 67108864)] 20)).alloc (.cells #[.string text, .iface 133 (.pointer (some a))] 171)).drew := by
  unfold Interp.answers at hF
  have hop := opPlain133_119w "fmt.errorf" a s _ hs
  have k1 := call24; have k2 := fguard; have k3 := fmt0; have k4 := fmt0r; have k5 := op3_100w; have k6 := op105_115w; have k7 := ptr133; have k8 := elem133; have k9 := isError133; have k10 := ptr132; have k11 := elem132; have k12 := isError132
  go_enter Ybaf.func18, Ybaf.ntmps18
  go_wp2
  go_ret
  exact ⟨rfl, _, rfl⟩
end Go.Proofs.YbulkauoyFmt
