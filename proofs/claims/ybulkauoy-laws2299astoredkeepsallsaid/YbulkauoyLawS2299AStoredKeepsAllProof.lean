/-
  A proof of 'Rows.LawS2299AStoredKeepsAllSaid': the frame is the guide's own (proof-skeleton.mjs), the walk is ours.
-/
import Derived.Test.YbulkauoyRows
import Derived.Test.YbulkauoyRelease
import Derived.WalkKit
import Derived.ProofKit
import Derived.OpenShut
import Derived.ShutString
import Derived.SizedLaws
namespace Go.Proofs.Ybulkauoy.lawS2299AStoredKeepsAll
open Go.ChangeShapes Go.WideShapes Go.ChangeAt Go.RowKit
open Go.ChangeMaps (open_string shut_string)
set_option linter.unusedVariables false      -- a walk need not use every 'w<i>' (that an integer argument fits its kind)

theorem own : ownKnob Yba.prog.godebug = none := by kernel_rfl

/-! ### THE PLAIN LAW -/
theorem keeps_all (b c names r : Int) (h0 : -9223372036854775808 ≤ b) (h1 : b ≤ 9223372036854775807) (hc : 1 ≤ c) (hr : r < 1152921504606846976) : bytesOf b c (c + 1) 0 0 names r = b := by
  have e : wrap64 b = b := by unfold wrap64; omega
  rw [bytesOf, if_pos (by omega), keepOf, if_neg (by omega), if_pos (by omega), keptOf, if_neg (by omega), heldOf, Int.sub_zero, e, Int.max_eq_right (by omega), Int.zero_add, e]
theorem keeps_func (b c names : Int) (hc : 1 ≤ c) : bytesOf b c 0 0 0 names 1152921504606846976 = wrap64 (b + wrap64 (names * 256)) := by
  rw [bytesOf, if_pos (by omega), keepOf, if_neg (by omega), if_neg (by omega), keptOf, if_pos rfl, heldOf, Int.sub_zero]
  unfold wrap64; omega

/-! ### STEP 1: THE WALK: the Go text returns true. 'Grown w w'': the world has at most new blocks (Derived/RowKit3.lean). Part the cases AHEAD of 'go_enter' where a test parts the walk; take each callee by a contract of your own. -/
theorem walk (a0 : Int) (a1 : Int) (a2 : Int) (a3 : ByteArray) (w0 : (Lit.int .i64 a0).wf = true) (w1 : (Lit.int .i64 a1).wf = true) (w2 : (Lit.int .i64 a2).wf = true) (w3 : a3.size ≤ maxLen) (w4 : a3.size < 140737488355328) (w : World) :
    Calls Yba.prog 5 #[.int .i64 a0, .int .i64 a1, .int .i64 a2, .string a3] w fun e w' => e = .returned (.bool true) ∧ Grown w w' := by
  obtain ⟨hb0, hb1⟩ := bounds_i64 w0
  obtain ⟨hn0, hn1⟩ := bounds_i64 w2
  by_cases h1 : a1 < 1
  · go_enter Yba.func5, Yba.ntmps5
    go_wp2
    go_ret
    exact ⟨rfl, by repeat (first | exact Grown.refl _ | apply Grown.drew | apply Grown.alloc)⟩
  · by_cases h2 : 1073741824 < a1
    · go_enter Yba.func5, Yba.ntmps5
      go_wp2
      go_ret
      exact ⟨rfl, by repeat (first | exact Grown.refl _ | apply Grown.drew | apply Grown.alloc)⟩
    · go_enter Yba.func5, Yba.ntmps5
      go_wp2_with fail
      refine (release_any w.heap.size a0 a1 (a1 + 1) 0 0 a2 a3.size _ _ ?_ ?_ ?_ ?_ ?_ ?_ ?_ ?_).mono ?_
      · go_simp
      · go_simp
      · go_simp
      · go_simp
      · go_simp
      · go_simp
      · go_simp
      · exact reach_string _ a3 _ w3 (by go_simp)
      rintro e w1 ⟨rfl, k0, k1, k2, k3, hz, hg⟩
      rw [keeps_all a0 a1 a2 a3.size hb0 hb1 h1 (by omega)] at k0
      rw [stored_yes (by omega)] at k2
      go_wp2_with fail
      refine (release_any (w.heap.size + 1 + 1) a0 a1 0 0 0 a2 1152921504606846976 _ _ ?_ ?_ ?_ ?_ ?_ ?_ ?_ ?_).mono ?_
      · go_simp
      · go_simp
      · go_simp
      · go_simp
      · go_simp
      · go_simp
      · go_simp
      · exact reach_func _ _
      rintro e w2 ⟨rfl, m0, m1, m2, m3, hz2, hg2⟩
      rw [keeps_func a0 a1 a2 h1] at m0
      go_wp2
      go_ret
      exact ⟨rfl, hg2 w (((hg w (((Grown.refl w).alloc _ _).alloc _ _) (Nat.le_refl _)).alloc _ _).alloc _ _) (by omega)⟩

/-! ### THE ROW's STEP: WRITTEN OUT: LEAVE IT -/
set_option maxRecDepth 100000 in
theorem lifted (os : Os) (started : os.Started) (H : Type) (enc : TypeId × Value → H) :
    ReturnsInHanded {} Yba.checked os 5 .any (Rows.lawS2299AStoredKeepsAllSpec.pre6 enc Yba.prog Yba.f5 Rows.lawS2299AStoredKeepsAllRow.domain false) (Rows.lawS2299AStoredKeepsAllSpec.post enc Yba.prog Yba.f5 false true false false) := by
  refine returnsInHanded_of_change_sized (C := Yba.checked) own started (by kernel_rfl) Yba.func5
    (ChangeSpec.witness6 (enc := enc) (C := Yba.checked) false ⟨#[], #[.int .i64 0, .int .i64 0, .int .i64 0, .string ByteArray.empty], []⟩ 8 (by kernel_rfl) (by kernel_rfl) (by kernel_rfl) (by kernel_rfl)) ?_
  intro W base args ds gs before hval0 hW hcnd hsz0 _
  have hsz : (DataW.weightsEach Yba.prog (Yba.f5.params.toList ++ Rows.lawS2299AStoredKeepsAllSpec.plain.varTypes Yba.prog) (ds ++ gs)).all (· ≤ reachBytes) = true := hsz0
  clear hsz0
  have hval : ∀ (j : Nat) t v, Yba.f5.params[j]? = some t → args[j]? = some v → Value.okWide Yba.prog W .any base t v := hval0
  have hW' := hW
  obtain ⟨p, q, hA0, hV, rfl, hfz, hnd⟩ := hW
  have hA : DataW.TrodAll enc Yba.prog W 0 (fun _ => true) true Yba.f5.params.toList args.toList ds p := hA0
  rw [Yba.params5] at hA hval hsz
  obtain ⟨v0, vs0, d0, ds0, p0, q0, hargs, rfl, rfl, h0, r0⟩ := trodAll_cons hA
  obtain ⟨v1, vs1, d1, ds1, p1, q1, rfl, rfl, rfl, h1, r1⟩ := trodAll_cons r0
  obtain ⟨v2, vs2, d2, ds2, p2, q2, rfl, rfl, rfl, h2, r2⟩ := trodAll_cons r1
  obtain ⟨v3, vs3, d3, ds3, p3, q3, rfl, rfl, rfl, h3, r3⟩ := trodAll_cons r2
  obtain ⟨rfl, rfl, rfl⟩ := trodAll_nil r3
  obtain rfl : args = #[v0, v1, v2, v3] := by cases args; simp_all
  obtain ⟨rfl, rfl⟩ := trodVars_none hV
  obtain ⟨a0, rfl, rfl, rfl, w0⟩ := open_int Yba.underlying3 (hval 0 3 v0 rfl rfl) h0
  obtain ⟨a1, rfl, rfl, rfl, w1⟩ := open_int Yba.underlying3 (hval 1 3 v1 rfl rfl) h1
  obtain ⟨a2, rfl, rfl, rfl, w2⟩ := open_int Yba.underlying3 (hval 2 3 v2 rfl rfl) h2
  obtain ⟨a3, rfl, rfl, rfl, w3⟩ := open_string Yba.underlying9 (hval 3 9 v3 rfl rfl) h3
  clear hA0 hval0
  have w4 : a3.size < 140737488355328 := by
    have := sized_string hsz (j := 3) (t := 9) rfl rfl
    have h2 := reachBytes_lt
    have h3 : a3.data.toList.length = a3.size := by simp
    omega
  simp only [List.append_nil] at hW'
  refine (walk a0 a1 a2 a3 w0 w1 w2 w3 w4 W).mono fun e W' ⟨he, hg⟩ => ?_
  subst he
  exact ⟨_, rfl, post_of_same (pa := []) (pv := []) hW' (fun _ _ _ => (trodAll_cons_mk (shut_bool Yba.underlying4 _) trodAll_mk0)) (fun sp _ => (trodAll_cons_mk (shut_int Yba.underlying3 w0) (trodAll_cons_mk (shut_int Yba.underlying3 w1) (trodAll_cons_mk (shut_int Yba.underlying3 w2) (trodAll_cons_mk (shut_string Yba.underlying9 w3) trodAll_mk0))))) (fun _ _ => rfl) rfl
    (hg.frame _) hg.2.1 (ok_one (by kernel_rfl) rfl (okWide_bool_mk Yba.underlying4 _))⟩

theorem over : Rows.lawS2299AStoredKeepsAllRow.holds Yba.pinned (OpenSpec.ofChange Rows.lawS2299AStoredKeepsAllSpec) :=
  OpenClaim.holds_of_wide 5 Yba.f5 rfl rfl rfl rfl rfl rfl rfl ⟨rfl, rfl, rfl, rfl, rfl⟩ rfl rfl rfl rfl rfl (by kernel_rfl) Yba.func5 (by kernel_rfl)
    (of_decide_eq_true (by kernel_rfl)) (by unfold Func.isWrapper; first | (rw [if_pos (by decide +kernel)]; kernel_rfl) | (rw [if_neg (by decide +kernel)]; exact ⟨rfl, rfl⟩))
    (fun os started H enc _ => lifted os started H enc)

/-- ████ THE STATEMENT ████ -/
theorem proved : Rows.LawS2299AStoredKeepsAllSaid :=
  over
end Go.Proofs.Ybulkauoy.lawS2299AStoredKeepsAll
