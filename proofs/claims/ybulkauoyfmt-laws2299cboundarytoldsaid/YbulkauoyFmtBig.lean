import Derived.Test.YbulkauoyFmtTooLarge
import Derived.Test.YbulkauoyFmtSize
import Derived.Stop.LaidErr
namespace Go.Proofs.YbulkauoyFmt
open Go.RowKit Go.Extern.Stop Go.Stop Go.Extern

/-- The bytes of HashType. -/
def hashT : ByteArray := ⟨#[72, 65, 83, 72]⟩

theorem type_hash (v : Value) (w : World) : Calls Ybaf.prog 51 #[v] w fun e w' => e = .returned (.string hashT) ∧ w' = w := by
  go_enter Ybaf.func51, Ybaf.ntmps51
  go_wp2
  go_ret
  exact ⟨rfl, rfl⟩

set_option maxRecDepth 100000 in
set_option maxHeartbeats 1000000 in
/-- 'CheckSize' (function 10) of a hash that does not fit: a new wrapper of the sentinel. -/
theorem check_big (F : Interp) (hb n cap : Nat) (pa : Option Addr) (a : Addr) (s : ByteArray) (w : World) (hF : F.answers w.tape) (hg : w.cell? ⟨0, 0, none⟩ = some (.iface 133 (.pointer (some a)))) (hs : w.cell? a = some (.string s))
    (hn : 64 * (n : Int) > 67108864) (hn1 : n ≤ 2000000) (h0 : w.cell? ⟨hb, 0, none⟩ = some (.slice pa n cap)) :
    Calls Ybaf.prog 10 #[.iface 70 (.pointer (some ⟨hb, 0, none⟩))] w fun e w' => ∃ pb, e = .returned (.iface 132 (.pointer (some ⟨pb, 0, none⟩))) ∧ w'.cell? ⟨pb, 1, none⟩ = some (.iface 133 (.pointer (some a))) ∧ Below w.heap.size w w' := by
  have mT := methodType
  go_enter Ybaf.func10, Ybaf.ntmps10
  go_wp2_with (go_at_call 17; refine (size_hash hb n cap pa _ hn1 h0).mono ?_; rintro r w' ⟨rfl, rfl⟩)
  refine (type_hash _ _).mono ?_
  rintro r w1 ⟨rfl, rfl⟩
  go_wp2_with fail
  refine (tooLarge_wraps F _ _ a s _ ?_ hg ?_).mono ?_
  · exact hF
  · exact cell?_alloc_old _ hs
  rintro r w2 ⟨rfl, text, rfl⟩
  go_wp2
  go_ret
  refine ⟨_, rfl, ?_, ?_⟩
  · go_simp
  · exact (((Below.refl _ _).alloc (Nat.le_refl _) _).alloc (by simp) _).drew
end Go.Proofs.YbulkauoyFmt
