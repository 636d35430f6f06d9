/-
  A proof of 'Rows.LawS2299ABytesSaid': the frame is the guide's own (proof-skeleton.mjs), the walk is ours.
-/
import Derived.Test.YbulkauoyRows
import Derived.Test.YbulkauoyObj
import Derived.WalkKit
import Derived.ProofKit
import Derived.OpenShut
import Derived.ShutString
namespace Go.Proofs.Ybulkauoy.lawS2299ABytes
open Go.ChangeShapes Go.WideShapes Go.ChangeAt Go.RowKit
open Go.ChangeMaps (open_string shut_string)
set_option linter.unusedVariables false      -- a walk need not use every 'w<i>' (that an integer argument fits its kind)

theorem own : ownKnob Yba.prog.godebug = none := by kernel_rfl

/-! ### THE PLAIN LAW: what 'release' leaves, in the law's own words, a way each -/
theorem kept_max {held names r : Int} (h : r = 1152921504606846976) : keptOf held names r = wrap64 (held + wrap64 (names * 256)) := by rw [keptOf, if_pos h]
theorem kept_held {held names r : Int} (h : r ≠ 1152921504606846976) (hl : held < r) : keptOf held names r = held := by rw [keptOf, if_neg h, Int.min_eq_left (Int.le_of_lt hl)]
theorem kept_reach {held names r : Int} (h : r ≠ 1152921504606846976) (hl : ¬ held < r) : keptOf held names r = r := by rw [keptOf, if_neg h, Int.min_eq_right (Int.not_lt.1 hl)]

set_option maxHeartbeats 400000 in
theorem way_funcy (a0 : Int) (a1 : Int) (a2 : Int) (a3 : Int) (a4 : Int) (a5 : Int) (a6 : Int) (a7 : ByteArray) (a8 : Int) (w0 : (Lit.int .i64 a0).wf = true) (w1 : (Lit.int .i64 a1).wf = true) (w2 : (Lit.int .i64 a2).wf = true) (w3 : (Lit.int .i64 a3).wf = true) (w4 : (Lit.int .i64 a4).wf = true) (w5 : (Lit.int .i64 a5).wf = true) (w6 : (Lit.int .u8 a6).wf = true) (w7 : a7.size ≤ maxLen) (w8 : (Lit.int .i64 a8).wf = true) (w : World)
    (h2 : a1 < a3) (h3 : 0 < a1) :
    Calls Yba.prog 4 #[.int .i64 a0, .int .i64 a1, .int .i64 a2, .int .i64 a3, .int .i64 a4, .int .i64 a5, .int .u8 a6, .string a7, .int .i64 a8] w fun e w' => e = .returned (.bool true) ∧ Grown w w' := by
  obtain ⟨hk0, hk1⟩ := bounds_u8 w6
  have B : Hid (bytesOf a0 a1 a2 a3 a4 a5 (rcOf a6 a7 a8) = wrap64 (a4 + wrap64 (wrap64 (a0 - a4) + wrap64 (a5 * 256)))) := bytes_yes h3 (keep_func h2)
  go_enter Yba.func4, Yba.ntmps4
  go_wp2_with fail
  refine (obj_any a6 a7 a8 _ hk0 hk1 w7).mono ?_
  rintro e W1 ⟨v, rfl, hg1, hc1, hf1, hr1⟩
  go_wp2_with fail
  refine (release_any w.heap.size a0 a1 a2 a3 a4 a5 (rcOf a6 a7 a8) v W1 ?_ ?_ ?_ ?_ ?_ ?_ ?_ (hr1 _ _ _ (by simp))).mono ?_
  · rw [hc1 _ _ (by simp)]; go_simp
  · rw [hc1 _ _ (by simp)]; go_simp
  · rw [hc1 _ _ (by simp)]; go_simp
  · rw [hc1 _ _ (by simp)]; go_simp
  · rw [hf1 _ _ (by simp)]; go_simp
  · rw [hf1 _ _ (by simp)]; go_simp
  · rw [hf1 _ _ (by simp)]; go_simp
  rintro e W2 ⟨rfl, k0, k1, k2, k3, hz2, hg2⟩
  have hgr := hg2 w (hg1 w ((Grown.refl w).alloc _ _)) (Nat.le_refl _)
  rw [B.out] at k0
  clear hg1 hc1 hf1 hr1 hg2 hz2
  go_wp2_with (go_at_call 8; refine (rc_any _ _ _ _ hk0 hk1 w7).mono ?_; rintro e w' ⟨rfl, rfl⟩)
  go_ret
  exact ⟨rfl, hgr⟩

set_option maxHeartbeats 400000 in
theorem way_max_ny (a0 : Int) (a1 : Int) (a2 : Int) (a3 : Int) (a4 : Int) (a5 : Int) (a6 : Int) (a7 : ByteArray) (a8 : Int) (w0 : (Lit.int .i64 a0).wf = true) (w1 : (Lit.int .i64 a1).wf = true) (w2 : (Lit.int .i64 a2).wf = true) (w3 : (Lit.int .i64 a3).wf = true) (w4 : (Lit.int .i64 a4).wf = true) (w5 : (Lit.int .i64 a5).wf = true) (w6 : (Lit.int .u8 a6).wf = true) (w7 : a7.size ≤ maxLen) (w8 : (Lit.int .i64 a8).wf = true) (w : World)
    (h2 : ¬ a1 < a3) (h1 : ¬ a1 < a2) (hm : rcOf a6 a7 a8 = 1152921504606846976) (h3 : 0 < a1) :
    Calls Yba.prog 4 #[.int .i64 a0, .int .i64 a1, .int .i64 a2, .int .i64 a3, .int .i64 a4, .int .i64 a5, .int .u8 a6, .string a7, .int .i64 a8] w fun e w' => e = .returned (.bool true) ∧ Grown w w' := by
  obtain ⟨hk0, hk1⟩ := bounds_u8 w6
  have B : Hid (bytesOf a0 a1 a2 a3 a4 a5 (rcOf a6 a7 a8) = wrap64 (a4 + wrap64 (wrap64 (a0 - a4) + wrap64 (a5 * 256)))) := bytes_yes h3 ((keep_plain h2 h1).trans (kept_max hm))
  go_enter Yba.func4, Yba.ntmps4
  go_wp2_with fail
  refine (obj_any a6 a7 a8 _ hk0 hk1 w7).mono ?_
  rintro e W1 ⟨v, rfl, hg1, hc1, hf1, hr1⟩
  go_wp2_with fail
  refine (release_any w.heap.size a0 a1 a2 a3 a4 a5 (rcOf a6 a7 a8) v W1 ?_ ?_ ?_ ?_ ?_ ?_ ?_ (hr1 _ _ _ (by simp))).mono ?_
  · rw [hc1 _ _ (by simp)]; go_simp
  · rw [hc1 _ _ (by simp)]; go_simp
  · rw [hc1 _ _ (by simp)]; go_simp
  · rw [hc1 _ _ (by simp)]; go_simp
  · rw [hf1 _ _ (by simp)]; go_simp
  · rw [hf1 _ _ (by simp)]; go_simp
  · rw [hf1 _ _ (by simp)]; go_simp
  rintro e W2 ⟨rfl, k0, k1, k2, k3, hz2, hg2⟩
  have hgr := hg2 w (hg1 w ((Grown.refl w).alloc _ _)) (Nat.le_refl _)
  rw [B.out] at k0
  clear hg1 hc1 hf1 hr1 hg2 hz2
  go_wp2_with (go_at_call 8; refine (rc_any _ _ _ _ hk0 hk1 w7).mono ?_; rintro e w' ⟨rfl, rfl⟩)
  go_ret
  exact ⟨rfl, hgr⟩

set_option maxHeartbeats 400000 in
theorem way_max_ly (a0 : Int) (a1 : Int) (a2 : Int) (a3 : Int) (a4 : Int) (a5 : Int) (a6 : Int) (a7 : ByteArray) (a8 : Int) (w0 : (Lit.int .i64 a0).wf = true) (w1 : (Lit.int .i64 a1).wf = true) (w2 : (Lit.int .i64 a2).wf = true) (w3 : (Lit.int .i64 a3).wf = true) (w4 : (Lit.int .i64 a4).wf = true) (w5 : (Lit.int .i64 a5).wf = true) (w6 : (Lit.int .u8 a6).wf = true) (w7 : a7.size ≤ maxLen) (w8 : (Lit.int .i64 a8).wf = true) (w : World)
    (h2 : ¬ a1 < a3) (h1 : a1 < a2) (hm : rcOf a6 a7 a8 = 1152921504606846976) (hq : wrap64 (wrap64 (a0 - a4) + wrap64 (a5 * 256)) < wrap64 (a0 - a4)) (h3 : 0 < a1) :
    Calls Yba.prog 4 #[.int .i64 a0, .int .i64 a1, .int .i64 a2, .int .i64 a3, .int .i64 a4, .int .i64 a5, .int .u8 a6, .string a7, .int .i64 a8] w fun e w' => e = .returned (.bool true) ∧ Grown w w' := by
  obtain ⟨hk0, hk1⟩ := bounds_u8 w6
  have B : Hid (bytesOf a0 a1 a2 a3 a4 a5 (rcOf a6 a7 a8) = wrap64 (a4 + wrap64 (a0 - a4))) := bytes_yes h3 (keep_all h2 h1 (by rw [kept_max hm]; exact hq))
  go_enter Yba.func4, Yba.ntmps4
  go_wp2_with fail
  refine (obj_any a6 a7 a8 _ hk0 hk1 w7).mono ?_
  rintro e W1 ⟨v, rfl, hg1, hc1, hf1, hr1⟩
  go_wp2_with fail
  refine (release_any w.heap.size a0 a1 a2 a3 a4 a5 (rcOf a6 a7 a8) v W1 ?_ ?_ ?_ ?_ ?_ ?_ ?_ (hr1 _ _ _ (by simp))).mono ?_
  · rw [hc1 _ _ (by simp)]; go_simp
  · rw [hc1 _ _ (by simp)]; go_simp
  · rw [hc1 _ _ (by simp)]; go_simp
  · rw [hc1 _ _ (by simp)]; go_simp
  · rw [hf1 _ _ (by simp)]; go_simp
  · rw [hf1 _ _ (by simp)]; go_simp
  · rw [hf1 _ _ (by simp)]; go_simp
  rintro e W2 ⟨rfl, k0, k1, k2, k3, hz2, hg2⟩
  have hgr := hg2 w (hg1 w ((Grown.refl w).alloc _ _)) (Nat.le_refl _)
  rw [B.out] at k0
  clear hg1 hc1 hf1 hr1 hg2 hz2
  go_wp2_with (go_at_call 8; refine (rc_any _ _ _ _ hk0 hk1 w7).mono ?_; rintro e w' ⟨rfl, rfl⟩)
  go_ret
  exact ⟨rfl, hgr⟩

set_option maxHeartbeats 400000 in
theorem way_max_gy (a0 : Int) (a1 : Int) (a2 : Int) (a3 : Int) (a4 : Int) (a5 : Int) (a6 : Int) (a7 : ByteArray) (a8 : Int) (w0 : (Lit.int .i64 a0).wf = true) (w1 : (Lit.int .i64 a1).wf = true) (w2 : (Lit.int .i64 a2).wf = true) (w3 : (Lit.int .i64 a3).wf = true) (w4 : (Lit.int .i64 a4).wf = true) (w5 : (Lit.int .i64 a5).wf = true) (w6 : (Lit.int .u8 a6).wf = true) (w7 : a7.size ≤ maxLen) (w8 : (Lit.int .i64 a8).wf = true) (w : World)
    (h2 : ¬ a1 < a3) (h1 : a1 < a2) (hm : rcOf a6 a7 a8 = 1152921504606846976) (hq : ¬ wrap64 (wrap64 (a0 - a4) + wrap64 (a5 * 256)) < wrap64 (a0 - a4)) (h3 : 0 < a1) :
    Calls Yba.prog 4 #[.int .i64 a0, .int .i64 a1, .int .i64 a2, .int .i64 a3, .int .i64 a4, .int .i64 a5, .int .u8 a6, .string a7, .int .i64 a8] w fun e w' => e = .returned (.bool true) ∧ Grown w w' := by
  obtain ⟨hk0, hk1⟩ := bounds_u8 w6
  have B : Hid (bytesOf a0 a1 a2 a3 a4 a5 (rcOf a6 a7 a8) = wrap64 (a4 + wrap64 (wrap64 (a0 - a4) + wrap64 (a5 * 256)))) := bytes_yes h3 ((keep_more h2 h1 (by rw [kept_max hm]; omega)).trans (kept_max hm))
  go_enter Yba.func4, Yba.ntmps4
  go_wp2_with fail
  refine (obj_any a6 a7 a8 _ hk0 hk1 w7).mono ?_
  rintro e W1 ⟨v, rfl, hg1, hc1, hf1, hr1⟩
  go_wp2_with fail
  refine (release_any w.heap.size a0 a1 a2 a3 a4 a5 (rcOf a6 a7 a8) v W1 ?_ ?_ ?_ ?_ ?_ ?_ ?_ (hr1 _ _ _ (by simp))).mono ?_
  · rw [hc1 _ _ (by simp)]; go_simp
  · rw [hc1 _ _ (by simp)]; go_simp
  · rw [hc1 _ _ (by simp)]; go_simp
  · rw [hc1 _ _ (by simp)]; go_simp
  · rw [hf1 _ _ (by simp)]; go_simp
  · rw [hf1 _ _ (by simp)]; go_simp
  · rw [hf1 _ _ (by simp)]; go_simp
  rintro e W2 ⟨rfl, k0, k1, k2, k3, hz2, hg2⟩
  have hgr := hg2 w (hg1 w ((Grown.refl w).alloc _ _)) (Nat.le_refl _)
  rw [B.out] at k0
  clear hg1 hc1 hf1 hr1 hg2 hz2
  go_wp2_with (go_at_call 8; refine (rc_any _ _ _ _ hk0 hk1 w7).mono ?_; rintro e w' ⟨rfl, rfl⟩)
  go_ret
  exact ⟨rfl, hgr⟩

set_option maxHeartbeats 400000 in
theorem way_held_ny (a0 : Int) (a1 : Int) (a2 : Int) (a3 : Int) (a4 : Int) (a5 : Int) (a6 : Int) (a7 : ByteArray) (a8 : Int) (w0 : (Lit.int .i64 a0).wf = true) (w1 : (Lit.int .i64 a1).wf = true) (w2 : (Lit.int .i64 a2).wf = true) (w3 : (Lit.int .i64 a3).wf = true) (w4 : (Lit.int .i64 a4).wf = true) (w5 : (Lit.int .i64 a5).wf = true) (w6 : (Lit.int .u8 a6).wf = true) (w7 : a7.size ≤ maxLen) (w8 : (Lit.int .i64 a8).wf = true) (w : World)
    (h2 : ¬ a1 < a3) (h1 : ¬ a1 < a2) (hm : rcOf a6 a7 a8 ≠ 1152921504606846976) (hl : wrap64 (a0 - a4) < rcOf a6 a7 a8) (h3 : 0 < a1) :
    Calls Yba.prog 4 #[.int .i64 a0, .int .i64 a1, .int .i64 a2, .int .i64 a3, .int .i64 a4, .int .i64 a5, .int .u8 a6, .string a7, .int .i64 a8] w fun e w' => e = .returned (.bool true) ∧ Grown w w' := by
  obtain ⟨hk0, hk1⟩ := bounds_u8 w6
  have B : Hid (bytesOf a0 a1 a2 a3 a4 a5 (rcOf a6 a7 a8) = wrap64 (a4 + wrap64 (a0 - a4))) := bytes_yes h3 ((keep_plain h2 h1).trans (kept_held hm hl))
  go_enter Yba.func4, Yba.ntmps4
  go_wp2_with fail
  refine (obj_any a6 a7 a8 _ hk0 hk1 w7).mono ?_
  rintro e W1 ⟨v, rfl, hg1, hc1, hf1, hr1⟩
  go_wp2_with fail
  refine (release_any w.heap.size a0 a1 a2 a3 a4 a5 (rcOf a6 a7 a8) v W1 ?_ ?_ ?_ ?_ ?_ ?_ ?_ (hr1 _ _ _ (by simp))).mono ?_
  · rw [hc1 _ _ (by simp)]; go_simp
  · rw [hc1 _ _ (by simp)]; go_simp
  · rw [hc1 _ _ (by simp)]; go_simp
  · rw [hc1 _ _ (by simp)]; go_simp
  · rw [hf1 _ _ (by simp)]; go_simp
  · rw [hf1 _ _ (by simp)]; go_simp
  · rw [hf1 _ _ (by simp)]; go_simp
  rintro e W2 ⟨rfl, k0, k1, k2, k3, hz2, hg2⟩
  have hgr := hg2 w (hg1 w ((Grown.refl w).alloc _ _)) (Nat.le_refl _)
  rw [B.out] at k0
  clear hg1 hc1 hf1 hr1 hg2 hz2
  go_wp2_with (go_at_call 8; refine (rc_any _ _ _ _ hk0 hk1 w7).mono ?_; rintro e w' ⟨rfl, rfl⟩)
  go_ret
  exact ⟨rfl, hgr⟩

set_option maxHeartbeats 400000 in
theorem way_held_gy (a0 : Int) (a1 : Int) (a2 : Int) (a3 : Int) (a4 : Int) (a5 : Int) (a6 : Int) (a7 : ByteArray) (a8 : Int) (w0 : (Lit.int .i64 a0).wf = true) (w1 : (Lit.int .i64 a1).wf = true) (w2 : (Lit.int .i64 a2).wf = true) (w3 : (Lit.int .i64 a3).wf = true) (w4 : (Lit.int .i64 a4).wf = true) (w5 : (Lit.int .i64 a5).wf = true) (w6 : (Lit.int .u8 a6).wf = true) (w7 : a7.size ≤ maxLen) (w8 : (Lit.int .i64 a8).wf = true) (w : World)
    (h2 : ¬ a1 < a3) (h1 : a1 < a2) (hm : rcOf a6 a7 a8 ≠ 1152921504606846976) (hl : wrap64 (a0 - a4) < rcOf a6 a7 a8) (h3 : 0 < a1) :
    Calls Yba.prog 4 #[.int .i64 a0, .int .i64 a1, .int .i64 a2, .int .i64 a3, .int .i64 a4, .int .i64 a5, .int .u8 a6, .string a7, .int .i64 a8] w fun e w' => e = .returned (.bool true) ∧ Grown w w' := by
  obtain ⟨hk0, hk1⟩ := bounds_u8 w6
  have B : Hid (bytesOf a0 a1 a2 a3 a4 a5 (rcOf a6 a7 a8) = wrap64 (a4 + wrap64 (a0 - a4))) := bytes_yes h3 ((keep_more h2 h1 (by rw [kept_held hm hl]; omega)).trans (kept_held hm hl))
  go_enter Yba.func4, Yba.ntmps4
  go_wp2_with fail
  refine (obj_any a6 a7 a8 _ hk0 hk1 w7).mono ?_
  rintro e W1 ⟨v, rfl, hg1, hc1, hf1, hr1⟩
  go_wp2_with fail
  refine (release_any w.heap.size a0 a1 a2 a3 a4 a5 (rcOf a6 a7 a8) v W1 ?_ ?_ ?_ ?_ ?_ ?_ ?_ (hr1 _ _ _ (by simp))).mono ?_
  · rw [hc1 _ _ (by simp)]; go_simp
  · rw [hc1 _ _ (by simp)]; go_simp
  · rw [hc1 _ _ (by simp)]; go_simp
  · rw [hc1 _ _ (by simp)]; go_simp
  · rw [hf1 _ _ (by simp)]; go_simp
  · rw [hf1 _ _ (by simp)]; go_simp
  · rw [hf1 _ _ (by simp)]; go_simp
  rintro e W2 ⟨rfl, k0, k1, k2, k3, hz2, hg2⟩
  have hgr := hg2 w (hg1 w ((Grown.refl w).alloc _ _)) (Nat.le_refl _)
  rw [B.out] at k0
  clear hg1 hc1 hf1 hr1 hg2 hz2
  go_wp2_with (go_at_call 8; refine (rc_any _ _ _ _ hk0 hk1 w7).mono ?_; rintro e w' ⟨rfl, rfl⟩)
  go_ret
  exact ⟨rfl, hgr⟩

set_option maxHeartbeats 400000 in
theorem way_reach_ny (a0 : Int) (a1 : Int) (a2 : Int) (a3 : Int) (a4 : Int) (a5 : Int) (a6 : Int) (a7 : ByteArray) (a8 : Int) (w0 : (Lit.int .i64 a0).wf = true) (w1 : (Lit.int .i64 a1).wf = true) (w2 : (Lit.int .i64 a2).wf = true) (w3 : (Lit.int .i64 a3).wf = true) (w4 : (Lit.int .i64 a4).wf = true) (w5 : (Lit.int .i64 a5).wf = true) (w6 : (Lit.int .u8 a6).wf = true) (w7 : a7.size ≤ maxLen) (w8 : (Lit.int .i64 a8).wf = true) (w : World)
    (h2 : ¬ a1 < a3) (h1 : ¬ a1 < a2) (hm : rcOf a6 a7 a8 ≠ 1152921504606846976) (hl : ¬ wrap64 (a0 - a4) < rcOf a6 a7 a8) (h3 : 0 < a1) :
    Calls Yba.prog 4 #[.int .i64 a0, .int .i64 a1, .int .i64 a2, .int .i64 a3, .int .i64 a4, .int .i64 a5, .int .u8 a6, .string a7, .int .i64 a8] w fun e w' => e = .returned (.bool true) ∧ Grown w w' := by
  obtain ⟨hk0, hk1⟩ := bounds_u8 w6
  have B : Hid (bytesOf a0 a1 a2 a3 a4 a5 (rcOf a6 a7 a8) = wrap64 (a4 + rcOf a6 a7 a8)) := bytes_yes h3 ((keep_plain h2 h1).trans (kept_reach hm hl))
  go_enter Yba.func4, Yba.ntmps4
  go_wp2_with fail
  refine (obj_any a6 a7 a8 _ hk0 hk1 w7).mono ?_
  rintro e W1 ⟨v, rfl, hg1, hc1, hf1, hr1⟩
  go_wp2_with fail
  refine (release_any w.heap.size a0 a1 a2 a3 a4 a5 (rcOf a6 a7 a8) v W1 ?_ ?_ ?_ ?_ ?_ ?_ ?_ (hr1 _ _ _ (by simp))).mono ?_
  · rw [hc1 _ _ (by simp)]; go_simp
  · rw [hc1 _ _ (by simp)]; go_simp
  · rw [hc1 _ _ (by simp)]; go_simp
  · rw [hc1 _ _ (by simp)]; go_simp
  · rw [hf1 _ _ (by simp)]; go_simp
  · rw [hf1 _ _ (by simp)]; go_simp
  · rw [hf1 _ _ (by simp)]; go_simp
  rintro e W2 ⟨rfl, k0, k1, k2, k3, hz2, hg2⟩
  have hgr := hg2 w (hg1 w ((Grown.refl w).alloc _ _)) (Nat.le_refl _)
  rw [B.out] at k0
  clear hg1 hc1 hf1 hr1 hg2 hz2
  go_wp2_with (go_at_call 8; refine (rc_any _ _ _ _ hk0 hk1 w7).mono ?_; rintro e w' ⟨rfl, rfl⟩)
  go_ret
  exact ⟨rfl, hgr⟩

set_option maxHeartbeats 400000 in
theorem way_reach_ly (a0 : Int) (a1 : Int) (a2 : Int) (a3 : Int) (a4 : Int) (a5 : Int) (a6 : Int) (a7 : ByteArray) (a8 : Int) (w0 : (Lit.int .i64 a0).wf = true) (w1 : (Lit.int .i64 a1).wf = true) (w2 : (Lit.int .i64 a2).wf = true) (w3 : (Lit.int .i64 a3).wf = true) (w4 : (Lit.int .i64 a4).wf = true) (w5 : (Lit.int .i64 a5).wf = true) (w6 : (Lit.int .u8 a6).wf = true) (w7 : a7.size ≤ maxLen) (w8 : (Lit.int .i64 a8).wf = true) (w : World)
    (h2 : ¬ a1 < a3) (h1 : a1 < a2) (hm : rcOf a6 a7 a8 ≠ 1152921504606846976) (hl : ¬ wrap64 (a0 - a4) < rcOf a6 a7 a8) (hq : rcOf a6 a7 a8 < wrap64 (a0 - a4)) (h3 : 0 < a1) :
    Calls Yba.prog 4 #[.int .i64 a0, .int .i64 a1, .int .i64 a2, .int .i64 a3, .int .i64 a4, .int .i64 a5, .int .u8 a6, .string a7, .int .i64 a8] w fun e w' => e = .returned (.bool true) ∧ Grown w w' := by
  obtain ⟨hk0, hk1⟩ := bounds_u8 w6
  have B : Hid (bytesOf a0 a1 a2 a3 a4 a5 (rcOf a6 a7 a8) = wrap64 (a4 + wrap64 (a0 - a4))) := bytes_yes h3 (keep_all h2 h1 (by rw [kept_reach hm hl]; exact hq))
  go_enter Yba.func4, Yba.ntmps4
  go_wp2_with fail
  refine (obj_any a6 a7 a8 _ hk0 hk1 w7).mono ?_
  rintro e W1 ⟨v, rfl, hg1, hc1, hf1, hr1⟩
  go_wp2_with fail
  refine (release_any w.heap.size a0 a1 a2 a3 a4 a5 (rcOf a6 a7 a8) v W1 ?_ ?_ ?_ ?_ ?_ ?_ ?_ (hr1 _ _ _ (by simp))).mono ?_
  · rw [hc1 _ _ (by simp)]; go_simp
  · rw [hc1 _ _ (by simp)]; go_simp
  · rw [hc1 _ _ (by simp)]; go_simp
  · rw [hc1 _ _ (by simp)]; go_simp
  · rw [hf1 _ _ (by simp)]; go_simp
  · rw [hf1 _ _ (by simp)]; go_simp
  · rw [hf1 _ _ (by simp)]; go_simp
  rintro e W2 ⟨rfl, k0, k1, k2, k3, hz2, hg2⟩
  have hgr := hg2 w (hg1 w ((Grown.refl w).alloc _ _)) (Nat.le_refl _)
  rw [B.out] at k0
  clear hg1 hc1 hf1 hr1 hg2 hz2
  go_wp2_with (go_at_call 8; refine (rc_any _ _ _ _ hk0 hk1 w7).mono ?_; rintro e w' ⟨rfl, rfl⟩)
  go_ret
  exact ⟨rfl, hgr⟩

set_option maxHeartbeats 400000 in
theorem way_reach_gy (a0 : Int) (a1 : Int) (a2 : Int) (a3 : Int) (a4 : Int) (a5 : Int) (a6 : Int) (a7 : ByteArray) (a8 : Int) (w0 : (Lit.int .i64 a0).wf = true) (w1 : (Lit.int .i64 a1).wf = true) (w2 : (Lit.int .i64 a2).wf = true) (w3 : (Lit.int .i64 a3).wf = true) (w4 : (Lit.int .i64 a4).wf = true) (w5 : (Lit.int .i64 a5).wf = true) (w6 : (Lit.int .u8 a6).wf = true) (w7 : a7.size ≤ maxLen) (w8 : (Lit.int .i64 a8).wf = true) (w : World)
    (h2 : ¬ a1 < a3) (h1 : a1 < a2) (hm : rcOf a6 a7 a8 ≠ 1152921504606846976) (hl : ¬ wrap64 (a0 - a4) < rcOf a6 a7 a8) (hq : ¬ rcOf a6 a7 a8 < wrap64 (a0 - a4)) (h3 : 0 < a1) :
    Calls Yba.prog 4 #[.int .i64 a0, .int .i64 a1, .int .i64 a2, .int .i64 a3, .int .i64 a4, .int .i64 a5, .int .u8 a6, .string a7, .int .i64 a8] w fun e w' => e = .returned (.bool true) ∧ Grown w w' := by
  obtain ⟨hk0, hk1⟩ := bounds_u8 w6
  have B : Hid (bytesOf a0 a1 a2 a3 a4 a5 (rcOf a6 a7 a8) = wrap64 (a4 + rcOf a6 a7 a8)) := bytes_yes h3 ((keep_more h2 h1 (by rw [kept_reach hm hl]; omega)).trans (kept_reach hm hl))
  go_enter Yba.func4, Yba.ntmps4
  go_wp2_with fail
  refine (obj_any a6 a7 a8 _ hk0 hk1 w7).mono ?_
  rintro e W1 ⟨v, rfl, hg1, hc1, hf1, hr1⟩
  go_wp2_with fail
  refine (release_any w.heap.size a0 a1 a2 a3 a4 a5 (rcOf a6 a7 a8) v W1 ?_ ?_ ?_ ?_ ?_ ?_ ?_ (hr1 _ _ _ (by simp))).mono ?_
  · rw [hc1 _ _ (by simp)]; go_simp
  · rw [hc1 _ _ (by simp)]; go_simp
  · rw [hc1 _ _ (by simp)]; go_simp
  · rw [hc1 _ _ (by simp)]; go_simp
  · rw [hf1 _ _ (by simp)]; go_simp
  · rw [hf1 _ _ (by simp)]; go_simp
  · rw [hf1 _ _ (by simp)]; go_simp
  rintro e W2 ⟨rfl, k0, k1, k2, k3, hz2, hg2⟩
  have hgr := hg2 w (hg1 w ((Grown.refl w).alloc _ _)) (Nat.le_refl _)
  rw [B.out] at k0
  clear hg1 hc1 hf1 hr1 hg2 hz2
  go_wp2_with (go_at_call 8; refine (rc_any _ _ _ _ hk0 hk1 w7).mono ?_; rintro e w' ⟨rfl, rfl⟩)
  go_ret
  exact ⟨rfl, hgr⟩

set_option maxHeartbeats 400000 in
theorem way_funcn (a0 : Int) (a1 : Int) (a2 : Int) (a3 : Int) (a4 : Int) (a5 : Int) (a6 : Int) (a7 : ByteArray) (a8 : Int) (w0 : (Lit.int .i64 a0).wf = true) (w1 : (Lit.int .i64 a1).wf = true) (w2 : (Lit.int .i64 a2).wf = true) (w3 : (Lit.int .i64 a3).wf = true) (w4 : (Lit.int .i64 a4).wf = true) (w5 : (Lit.int .i64 a5).wf = true) (w6 : (Lit.int .u8 a6).wf = true) (w7 : a7.size ≤ maxLen) (w8 : (Lit.int .i64 a8).wf = true) (w : World)
    (h2 : a1 < a3) (h3 : ¬ 0 < a1) :
    Calls Yba.prog 4 #[.int .i64 a0, .int .i64 a1, .int .i64 a2, .int .i64 a3, .int .i64 a4, .int .i64 a5, .int .u8 a6, .string a7, .int .i64 a8] w fun e w' => e = .returned (.bool true) ∧ Grown w w' := by
  obtain ⟨hk0, hk1⟩ := bounds_u8 w6
  have B : Hid (bytesOf a0 a1 a2 a3 a4 a5 (rcOf a6 a7 a8) = a4) := bytes_no h3
  go_enter Yba.func4, Yba.ntmps4
  go_wp2_with fail
  refine (obj_any a6 a7 a8 _ hk0 hk1 w7).mono ?_
  rintro e W1 ⟨v, rfl, hg1, hc1, hf1, hr1⟩
  go_wp2_with fail
  refine (release_any w.heap.size a0 a1 a2 a3 a4 a5 (rcOf a6 a7 a8) v W1 ?_ ?_ ?_ ?_ ?_ ?_ ?_ (hr1 _ _ _ (by simp))).mono ?_
  · rw [hc1 _ _ (by simp)]; go_simp
  · rw [hc1 _ _ (by simp)]; go_simp
  · rw [hc1 _ _ (by simp)]; go_simp
  · rw [hc1 _ _ (by simp)]; go_simp
  · rw [hf1 _ _ (by simp)]; go_simp
  · rw [hf1 _ _ (by simp)]; go_simp
  · rw [hf1 _ _ (by simp)]; go_simp
  rintro e W2 ⟨rfl, k0, k1, k2, k3, hz2, hg2⟩
  have hgr := hg2 w (hg1 w ((Grown.refl w).alloc _ _)) (Nat.le_refl _)
  rw [B.out] at k0
  clear hg1 hc1 hf1 hr1 hg2 hz2
  go_wp2_with (go_at_call 8; refine (rc_any _ _ _ _ hk0 hk1 w7).mono ?_; rintro e w' ⟨rfl, rfl⟩)
  go_ret
  exact ⟨rfl, hgr⟩

set_option maxHeartbeats 400000 in
theorem way_max_nn (a0 : Int) (a1 : Int) (a2 : Int) (a3 : Int) (a4 : Int) (a5 : Int) (a6 : Int) (a7 : ByteArray) (a8 : Int) (w0 : (Lit.int .i64 a0).wf = true) (w1 : (Lit.int .i64 a1).wf = true) (w2 : (Lit.int .i64 a2).wf = true) (w3 : (Lit.int .i64 a3).wf = true) (w4 : (Lit.int .i64 a4).wf = true) (w5 : (Lit.int .i64 a5).wf = true) (w6 : (Lit.int .u8 a6).wf = true) (w7 : a7.size ≤ maxLen) (w8 : (Lit.int .i64 a8).wf = true) (w : World)
    (h2 : ¬ a1 < a3) (h1 : ¬ a1 < a2) (hm : rcOf a6 a7 a8 = 1152921504606846976) (h3 : ¬ 0 < a1) :
    Calls Yba.prog 4 #[.int .i64 a0, .int .i64 a1, .int .i64 a2, .int .i64 a3, .int .i64 a4, .int .i64 a5, .int .u8 a6, .string a7, .int .i64 a8] w fun e w' => e = .returned (.bool true) ∧ Grown w w' := by
  obtain ⟨hk0, hk1⟩ := bounds_u8 w6
  have B : Hid (bytesOf a0 a1 a2 a3 a4 a5 (rcOf a6 a7 a8) = a4) := bytes_no h3
  go_enter Yba.func4, Yba.ntmps4
  go_wp2_with fail
  refine (obj_any a6 a7 a8 _ hk0 hk1 w7).mono ?_
  rintro e W1 ⟨v, rfl, hg1, hc1, hf1, hr1⟩
  go_wp2_with fail
  refine (release_any w.heap.size a0 a1 a2 a3 a4 a5 (rcOf a6 a7 a8) v W1 ?_ ?_ ?_ ?_ ?_ ?_ ?_ (hr1 _ _ _ (by simp))).mono ?_
  · rw [hc1 _ _ (by simp)]; go_simp
  · rw [hc1 _ _ (by simp)]; go_simp
  · rw [hc1 _ _ (by simp)]; go_simp
  · rw [hc1 _ _ (by simp)]; go_simp
  · rw [hf1 _ _ (by simp)]; go_simp
  · rw [hf1 _ _ (by simp)]; go_simp
  · rw [hf1 _ _ (by simp)]; go_simp
  rintro e W2 ⟨rfl, k0, k1, k2, k3, hz2, hg2⟩
  have hgr := hg2 w (hg1 w ((Grown.refl w).alloc _ _)) (Nat.le_refl _)
  rw [B.out] at k0
  clear hg1 hc1 hf1 hr1 hg2 hz2
  go_wp2_with (go_at_call 8; refine (rc_any _ _ _ _ hk0 hk1 w7).mono ?_; rintro e w' ⟨rfl, rfl⟩)
  go_ret
  exact ⟨rfl, hgr⟩

set_option maxHeartbeats 400000 in
theorem way_max_ln (a0 : Int) (a1 : Int) (a2 : Int) (a3 : Int) (a4 : Int) (a5 : Int) (a6 : Int) (a7 : ByteArray) (a8 : Int) (w0 : (Lit.int .i64 a0).wf = true) (w1 : (Lit.int .i64 a1).wf = true) (w2 : (Lit.int .i64 a2).wf = true) (w3 : (Lit.int .i64 a3).wf = true) (w4 : (Lit.int .i64 a4).wf = true) (w5 : (Lit.int .i64 a5).wf = true) (w6 : (Lit.int .u8 a6).wf = true) (w7 : a7.size ≤ maxLen) (w8 : (Lit.int .i64 a8).wf = true) (w : World)
    (h2 : ¬ a1 < a3) (h1 : a1 < a2) (hm : rcOf a6 a7 a8 = 1152921504606846976) (hq : wrap64 (wrap64 (a0 - a4) + wrap64 (a5 * 256)) < wrap64 (a0 - a4)) (h3 : ¬ 0 < a1) :
    Calls Yba.prog 4 #[.int .i64 a0, .int .i64 a1, .int .i64 a2, .int .i64 a3, .int .i64 a4, .int .i64 a5, .int .u8 a6, .string a7, .int .i64 a8] w fun e w' => e = .returned (.bool true) ∧ Grown w w' := by
  obtain ⟨hk0, hk1⟩ := bounds_u8 w6
  have B : Hid (bytesOf a0 a1 a2 a3 a4 a5 (rcOf a6 a7 a8) = a4) := bytes_no h3
  go_enter Yba.func4, Yba.ntmps4
  go_wp2_with fail
  refine (obj_any a6 a7 a8 _ hk0 hk1 w7).mono ?_
  rintro e W1 ⟨v, rfl, hg1, hc1, hf1, hr1⟩
  go_wp2_with fail
  refine (release_any w.heap.size a0 a1 a2 a3 a4 a5 (rcOf a6 a7 a8) v W1 ?_ ?_ ?_ ?_ ?_ ?_ ?_ (hr1 _ _ _ (by simp))).mono ?_
  · rw [hc1 _ _ (by simp)]; go_simp
  · rw [hc1 _ _ (by simp)]; go_simp
  · rw [hc1 _ _ (by simp)]; go_simp
  · rw [hc1 _ _ (by simp)]; go_simp
  · rw [hf1 _ _ (by simp)]; go_simp
  · rw [hf1 _ _ (by simp)]; go_simp
  · rw [hf1 _ _ (by simp)]; go_simp
  rintro e W2 ⟨rfl, k0, k1, k2, k3, hz2, hg2⟩
  have hgr := hg2 w (hg1 w ((Grown.refl w).alloc _ _)) (Nat.le_refl _)
  rw [B.out] at k0
  clear hg1 hc1 hf1 hr1 hg2 hz2
  go_wp2_with (go_at_call 8; refine (rc_any _ _ _ _ hk0 hk1 w7).mono ?_; rintro e w' ⟨rfl, rfl⟩)
  go_ret
  exact ⟨rfl, hgr⟩

set_option maxHeartbeats 400000 in
theorem way_max_gn (a0 : Int) (a1 : Int) (a2 : Int) (a3 : Int) (a4 : Int) (a5 : Int) (a6 : Int) (a7 : ByteArray) (a8 : Int) (w0 : (Lit.int .i64 a0).wf = true) (w1 : (Lit.int .i64 a1).wf = true) (w2 : (Lit.int .i64 a2).wf = true) (w3 : (Lit.int .i64 a3).wf = true) (w4 : (Lit.int .i64 a4).wf = true) (w5 : (Lit.int .i64 a5).wf = true) (w6 : (Lit.int .u8 a6).wf = true) (w7 : a7.size ≤ maxLen) (w8 : (Lit.int .i64 a8).wf = true) (w : World)
    (h2 : ¬ a1 < a3) (h1 : a1 < a2) (hm : rcOf a6 a7 a8 = 1152921504606846976) (hq : ¬ wrap64 (wrap64 (a0 - a4) + wrap64 (a5 * 256)) < wrap64 (a0 - a4)) (h3 : ¬ 0 < a1) :
    Calls Yba.prog 4 #[.int .i64 a0, .int .i64 a1, .int .i64 a2, .int .i64 a3, .int .i64 a4, .int .i64 a5, .int .u8 a6, .string a7, .int .i64 a8] w fun e w' => e = .returned (.bool true) ∧ Grown w w' := by
  obtain ⟨hk0, hk1⟩ := bounds_u8 w6
  have B : Hid (bytesOf a0 a1 a2 a3 a4 a5 (rcOf a6 a7 a8) = a4) := bytes_no h3
  go_enter Yba.func4, Yba.ntmps4
  go_wp2_with fail
  refine (obj_any a6 a7 a8 _ hk0 hk1 w7).mono ?_
  rintro e W1 ⟨v, rfl, hg1, hc1, hf1, hr1⟩
  go_wp2_with fail
  refine (release_any w.heap.size a0 a1 a2 a3 a4 a5 (rcOf a6 a7 a8) v W1 ?_ ?_ ?_ ?_ ?_ ?_ ?_ (hr1 _ _ _ (by simp))).mono ?_
  · rw [hc1 _ _ (by simp)]; go_simp
  · rw [hc1 _ _ (by simp)]; go_simp
  · rw [hc1 _ _ (by simp)]; go_simp
  · rw [hc1 _ _ (by simp)]; go_simp
  · rw [hf1 _ _ (by simp)]; go_simp
  · rw [hf1 _ _ (by simp)]; go_simp
  · rw [hf1 _ _ (by simp)]; go_simp
  rintro e W2 ⟨rfl, k0, k1, k2, k3, hz2, hg2⟩
  have hgr := hg2 w (hg1 w ((Grown.refl w).alloc _ _)) (Nat.le_refl _)
  rw [B.out] at k0
  clear hg1 hc1 hf1 hr1 hg2 hz2
  go_wp2_with (go_at_call 8; refine (rc_any _ _ _ _ hk0 hk1 w7).mono ?_; rintro e w' ⟨rfl, rfl⟩)
  go_ret
  exact ⟨rfl, hgr⟩

set_option maxHeartbeats 400000 in
theorem way_held_nn (a0 : Int) (a1 : Int) (a2 : Int) (a3 : Int) (a4 : Int) (a5 : Int) (a6 : Int) (a7 : ByteArray) (a8 : Int) (w0 : (Lit.int .i64 a0).wf = true) (w1 : (Lit.int .i64 a1).wf = true) (w2 : (Lit.int .i64 a2).wf = true) (w3 : (Lit.int .i64 a3).wf = true) (w4 : (Lit.int .i64 a4).wf = true) (w5 : (Lit.int .i64 a5).wf = true) (w6 : (Lit.int .u8 a6).wf = true) (w7 : a7.size ≤ maxLen) (w8 : (Lit.int .i64 a8).wf = true) (w : World)
    (h2 : ¬ a1 < a3) (h1 : ¬ a1 < a2) (hm : rcOf a6 a7 a8 ≠ 1152921504606846976) (hl : wrap64 (a0 - a4) < rcOf a6 a7 a8) (h3 : ¬ 0 < a1) :
    Calls Yba.prog 4 #[.int .i64 a0, .int .i64 a1, .int .i64 a2, .int .i64 a3, .int .i64 a4, .int .i64 a5, .int .u8 a6, .string a7, .int .i64 a8] w fun e w' => e = .returned (.bool true) ∧ Grown w w' := by
  obtain ⟨hk0, hk1⟩ := bounds_u8 w6
  have B : Hid (bytesOf a0 a1 a2 a3 a4 a5 (rcOf a6 a7 a8) = a4) := bytes_no h3
  go_enter Yba.func4, Yba.ntmps4
  go_wp2_with fail
  refine (obj_any a6 a7 a8 _ hk0 hk1 w7).mono ?_
  rintro e W1 ⟨v, rfl, hg1, hc1, hf1, hr1⟩
  go_wp2_with fail
  refine (release_any w.heap.size a0 a1 a2 a3 a4 a5 (rcOf a6 a7 a8) v W1 ?_ ?_ ?_ ?_ ?_ ?_ ?_ (hr1 _ _ _ (by simp))).mono ?_
  · rw [hc1 _ _ (by simp)]; go_simp
  · rw [hc1 _ _ (by simp)]; go_simp
  · rw [hc1 _ _ (by simp)]; go_simp
  · rw [hc1 _ _ (by simp)]; go_simp
  · rw [hf1 _ _ (by simp)]; go_simp
  · rw [hf1 _ _ (by simp)]; go_simp
  · rw [hf1 _ _ (by simp)]; go_simp
  rintro e W2 ⟨rfl, k0, k1, k2, k3, hz2, hg2⟩
  have hgr := hg2 w (hg1 w ((Grown.refl w).alloc _ _)) (Nat.le_refl _)
  rw [B.out] at k0
  clear hg1 hc1 hf1 hr1 hg2 hz2
  go_wp2_with (go_at_call 8; refine (rc_any _ _ _ _ hk0 hk1 w7).mono ?_; rintro e w' ⟨rfl, rfl⟩)
  go_ret
  exact ⟨rfl, hgr⟩

set_option maxHeartbeats 400000 in
theorem way_held_gn (a0 : Int) (a1 : Int) (a2 : Int) (a3 : Int) (a4 : Int) (a5 : Int) (a6 : Int) (a7 : ByteArray) (a8 : Int) (w0 : (Lit.int .i64 a0).wf = true) (w1 : (Lit.int .i64 a1).wf = true) (w2 : (Lit.int .i64 a2).wf = true) (w3 : (Lit.int .i64 a3).wf = true) (w4 : (Lit.int .i64 a4).wf = true) (w5 : (Lit.int .i64 a5).wf = true) (w6 : (Lit.int .u8 a6).wf = true) (w7 : a7.size ≤ maxLen) (w8 : (Lit.int .i64 a8).wf = true) (w : World)
    (h2 : ¬ a1 < a3) (h1 : a1 < a2) (hm : rcOf a6 a7 a8 ≠ 1152921504606846976) (hl : wrap64 (a0 - a4) < rcOf a6 a7 a8) (h3 : ¬ 0 < a1) :
    Calls Yba.prog 4 #[.int .i64 a0, .int .i64 a1, .int .i64 a2, .int .i64 a3, .int .i64 a4, .int .i64 a5, .int .u8 a6, .string a7, .int .i64 a8] w fun e w' => e = .returned (.bool true) ∧ Grown w w' := by
  obtain ⟨hk0, hk1⟩ := bounds_u8 w6
  have B : Hid (bytesOf a0 a1 a2 a3 a4 a5 (rcOf a6 a7 a8) = a4) := bytes_no h3
  go_enter Yba.func4, Yba.ntmps4
  go_wp2_with fail
  refine (obj_any a6 a7 a8 _ hk0 hk1 w7).mono ?_
  rintro e W1 ⟨v, rfl, hg1, hc1, hf1, hr1⟩
  go_wp2_with fail
  refine (release_any w.heap.size a0 a1 a2 a3 a4 a5 (rcOf a6 a7 a8) v W1 ?_ ?_ ?_ ?_ ?_ ?_ ?_ (hr1 _ _ _ (by simp))).mono ?_
  · rw [hc1 _ _ (by simp)]; go_simp
  · rw [hc1 _ _ (by simp)]; go_simp
  · rw [hc1 _ _ (by simp)]; go_simp
  · rw [hc1 _ _ (by simp)]; go_simp
  · rw [hf1 _ _ (by simp)]; go_simp
  · rw [hf1 _ _ (by simp)]; go_simp
  · rw [hf1 _ _ (by simp)]; go_simp
  rintro e W2 ⟨rfl, k0, k1, k2, k3, hz2, hg2⟩
  have hgr := hg2 w (hg1 w ((Grown.refl w).alloc _ _)) (Nat.le_refl _)
  rw [B.out] at k0
  clear hg1 hc1 hf1 hr1 hg2 hz2
  go_wp2_with (go_at_call 8; refine (rc_any _ _ _ _ hk0 hk1 w7).mono ?_; rintro e w' ⟨rfl, rfl⟩)
  go_ret
  exact ⟨rfl, hgr⟩

set_option maxHeartbeats 400000 in
theorem way_reach_nn (a0 : Int) (a1 : Int) (a2 : Int) (a3 : Int) (a4 : Int) (a5 : Int) (a6 : Int) (a7 : ByteArray) (a8 : Int) (w0 : (Lit.int .i64 a0).wf = true) (w1 : (Lit.int .i64 a1).wf = true) (w2 : (Lit.int .i64 a2).wf = true) (w3 : (Lit.int .i64 a3).wf = true) (w4 : (Lit.int .i64 a4).wf = true) (w5 : (Lit.int .i64 a5).wf = true) (w6 : (Lit.int .u8 a6).wf = true) (w7 : a7.size ≤ maxLen) (w8 : (Lit.int .i64 a8).wf = true) (w : World)
    (h2 : ¬ a1 < a3) (h1 : ¬ a1 < a2) (hm : rcOf a6 a7 a8 ≠ 1152921504606846976) (hl : ¬ wrap64 (a0 - a4) < rcOf a6 a7 a8) (h3 : ¬ 0 < a1) :
    Calls Yba.prog 4 #[.int .i64 a0, .int .i64 a1, .int .i64 a2, .int .i64 a3, .int .i64 a4, .int .i64 a5, .int .u8 a6, .string a7, .int .i64 a8] w fun e w' => e = .returned (.bool true) ∧ Grown w w' := by
  obtain ⟨hk0, hk1⟩ := bounds_u8 w6
  have B : Hid (bytesOf a0 a1 a2 a3 a4 a5 (rcOf a6 a7 a8) = a4) := bytes_no h3
  go_enter Yba.func4, Yba.ntmps4
  go_wp2_with fail
  refine (obj_any a6 a7 a8 _ hk0 hk1 w7).mono ?_
  rintro e W1 ⟨v, rfl, hg1, hc1, hf1, hr1⟩
  go_wp2_with fail
  refine (release_any w.heap.size a0 a1 a2 a3 a4 a5 (rcOf a6 a7 a8) v W1 ?_ ?_ ?_ ?_ ?_ ?_ ?_ (hr1 _ _ _ (by simp))).mono ?_
  · rw [hc1 _ _ (by simp)]; go_simp
  · rw [hc1 _ _ (by simp)]; go_simp
  · rw [hc1 _ _ (by simp)]; go_simp
  · rw [hc1 _ _ (by simp)]; go_simp
  · rw [hf1 _ _ (by simp)]; go_simp
  · rw [hf1 _ _ (by simp)]; go_simp
  · rw [hf1 _ _ (by simp)]; go_simp
  rintro e W2 ⟨rfl, k0, k1, k2, k3, hz2, hg2⟩
  have hgr := hg2 w (hg1 w ((Grown.refl w).alloc _ _)) (Nat.le_refl _)
  rw [B.out] at k0
  clear hg1 hc1 hf1 hr1 hg2 hz2
  go_wp2_with (go_at_call 8; refine (rc_any _ _ _ _ hk0 hk1 w7).mono ?_; rintro e w' ⟨rfl, rfl⟩)
  go_ret
  exact ⟨rfl, hgr⟩

set_option maxHeartbeats 400000 in
theorem way_reach_ln (a0 : Int) (a1 : Int) (a2 : Int) (a3 : Int) (a4 : Int) (a5 : Int) (a6 : Int) (a7 : ByteArray) (a8 : Int) (w0 : (Lit.int .i64 a0).wf = true) (w1 : (Lit.int .i64 a1).wf = true) (w2 : (Lit.int .i64 a2).wf = true) (w3 : (Lit.int .i64 a3).wf = true) (w4 : (Lit.int .i64 a4).wf = true) (w5 : (Lit.int .i64 a5).wf = true) (w6 : (Lit.int .u8 a6).wf = true) (w7 : a7.size ≤ maxLen) (w8 : (Lit.int .i64 a8).wf = true) (w : World)
    (h2 : ¬ a1 < a3) (h1 : a1 < a2) (hm : rcOf a6 a7 a8 ≠ 1152921504606846976) (hl : ¬ wrap64 (a0 - a4) < rcOf a6 a7 a8) (hq : rcOf a6 a7 a8 < wrap64 (a0 - a4)) (h3 : ¬ 0 < a1) :
    Calls Yba.prog 4 #[.int .i64 a0, .int .i64 a1, .int .i64 a2, .int .i64 a3, .int .i64 a4, .int .i64 a5, .int .u8 a6, .string a7, .int .i64 a8] w fun e w' => e = .returned (.bool true) ∧ Grown w w' := by
  obtain ⟨hk0, hk1⟩ := bounds_u8 w6
  have B : Hid (bytesOf a0 a1 a2 a3 a4 a5 (rcOf a6 a7 a8) = a4) := bytes_no h3
  go_enter Yba.func4, Yba.ntmps4
  go_wp2_with fail
  refine (obj_any a6 a7 a8 _ hk0 hk1 w7).mono ?_
  rintro e W1 ⟨v, rfl, hg1, hc1, hf1, hr1⟩
  go_wp2_with fail
  refine (release_any w.heap.size a0 a1 a2 a3 a4 a5 (rcOf a6 a7 a8) v W1 ?_ ?_ ?_ ?_ ?_ ?_ ?_ (hr1 _ _ _ (by simp))).mono ?_
  · rw [hc1 _ _ (by simp)]; go_simp
  · rw [hc1 _ _ (by simp)]; go_simp
  · rw [hc1 _ _ (by simp)]; go_simp
  · rw [hc1 _ _ (by simp)]; go_simp
  · rw [hf1 _ _ (by simp)]; go_simp
  · rw [hf1 _ _ (by simp)]; go_simp
  · rw [hf1 _ _ (by simp)]; go_simp
  rintro e W2 ⟨rfl, k0, k1, k2, k3, hz2, hg2⟩
  have hgr := hg2 w (hg1 w ((Grown.refl w).alloc _ _)) (Nat.le_refl _)
  rw [B.out] at k0
  clear hg1 hc1 hf1 hr1 hg2 hz2
  go_wp2_with (go_at_call 8; refine (rc_any _ _ _ _ hk0 hk1 w7).mono ?_; rintro e w' ⟨rfl, rfl⟩)
  go_ret
  exact ⟨rfl, hgr⟩

set_option maxHeartbeats 400000 in
theorem way_reach_gn (a0 : Int) (a1 : Int) (a2 : Int) (a3 : Int) (a4 : Int) (a5 : Int) (a6 : Int) (a7 : ByteArray) (a8 : Int) (w0 : (Lit.int .i64 a0).wf = true) (w1 : (Lit.int .i64 a1).wf = true) (w2 : (Lit.int .i64 a2).wf = true) (w3 : (Lit.int .i64 a3).wf = true) (w4 : (Lit.int .i64 a4).wf = true) (w5 : (Lit.int .i64 a5).wf = true) (w6 : (Lit.int .u8 a6).wf = true) (w7 : a7.size ≤ maxLen) (w8 : (Lit.int .i64 a8).wf = true) (w : World)
    (h2 : ¬ a1 < a3) (h1 : a1 < a2) (hm : rcOf a6 a7 a8 ≠ 1152921504606846976) (hl : ¬ wrap64 (a0 - a4) < rcOf a6 a7 a8) (hq : ¬ rcOf a6 a7 a8 < wrap64 (a0 - a4)) (h3 : ¬ 0 < a1) :
    Calls Yba.prog 4 #[.int .i64 a0, .int .i64 a1, .int .i64 a2, .int .i64 a3, .int .i64 a4, .int .i64 a5, .int .u8 a6, .string a7, .int .i64 a8] w fun e w' => e = .returned (.bool true) ∧ Grown w w' := by
  obtain ⟨hk0, hk1⟩ := bounds_u8 w6
  have B : Hid (bytesOf a0 a1 a2 a3 a4 a5 (rcOf a6 a7 a8) = a4) := bytes_no h3
  go_enter Yba.func4, Yba.ntmps4
  go_wp2_with fail
  refine (obj_any a6 a7 a8 _ hk0 hk1 w7).mono ?_
  rintro e W1 ⟨v, rfl, hg1, hc1, hf1, hr1⟩
  go_wp2_with fail
  refine (release_any w.heap.size a0 a1 a2 a3 a4 a5 (rcOf a6 a7 a8) v W1 ?_ ?_ ?_ ?_ ?_ ?_ ?_ (hr1 _ _ _ (by simp))).mono ?_
  · rw [hc1 _ _ (by simp)]; go_simp
  · rw [hc1 _ _ (by simp)]; go_simp
  · rw [hc1 _ _ (by simp)]; go_simp
  · rw [hc1 _ _ (by simp)]; go_simp
  · rw [hf1 _ _ (by simp)]; go_simp
  · rw [hf1 _ _ (by simp)]; go_simp
  · rw [hf1 _ _ (by simp)]; go_simp
  rintro e W2 ⟨rfl, k0, k1, k2, k3, hz2, hg2⟩
  have hgr := hg2 w (hg1 w ((Grown.refl w).alloc _ _)) (Nat.le_refl _)
  rw [B.out] at k0
  clear hg1 hc1 hf1 hr1 hg2 hz2
  go_wp2_with (go_at_call 8; refine (rc_any _ _ _ _ hk0 hk1 w7).mono ?_; rintro e w' ⟨rfl, rfl⟩)
  go_ret
  exact ⟨rfl, hgr⟩

/-! ### STEP 1: THE WALK: the Go text returns true. 'Grown w w'': the world has at most new blocks (Derived/RowKit3.lean). Part the cases AHEAD of 'go_enter' where a test parts the walk; take each callee by a contract of your own. -/
theorem walk (a0 : Int) (a1 : Int) (a2 : Int) (a3 : Int) (a4 : Int) (a5 : Int) (a6 : Int) (a7 : ByteArray) (a8 : Int) (w0 : (Lit.int .i64 a0).wf = true) (w1 : (Lit.int .i64 a1).wf = true) (w2 : (Lit.int .i64 a2).wf = true) (w3 : (Lit.int .i64 a3).wf = true) (w4 : (Lit.int .i64 a4).wf = true) (w5 : (Lit.int .i64 a5).wf = true) (w6 : (Lit.int .u8 a6).wf = true) (w7 : a7.size ≤ maxLen) (w8 : (Lit.int .i64 a8).wf = true) (w : World) :
    Calls Yba.prog 4 #[.int .i64 a0, .int .i64 a1, .int .i64 a2, .int .i64 a3, .int .i64 a4, .int .i64 a5, .int .u8 a6, .string a7, .int .i64 a8] w fun e w' => e = .returned (.bool true) ∧ Grown w w' := by
  by_cases h2 : a1 < a3
  · by_cases h3 : 0 < a1
    · exact way_funcy a0 a1 a2 a3 a4 a5 a6 a7 a8 w0 w1 w2 w3 w4 w5 w6 w7 w8 w h2 h3
    · exact way_funcn a0 a1 a2 a3 a4 a5 a6 a7 a8 w0 w1 w2 w3 w4 w5 w6 w7 w8 w h2 h3
  · by_cases h1 : a1 < a2
    · by_cases hm : rcOf a6 a7 a8 = 1152921504606846976
      · by_cases hq : wrap64 (wrap64 (a0 - a4) + wrap64 (a5 * 256)) < wrap64 (a0 - a4)
        · by_cases h3 : 0 < a1
          · exact way_max_ly a0 a1 a2 a3 a4 a5 a6 a7 a8 w0 w1 w2 w3 w4 w5 w6 w7 w8 w h2 h1 hm hq h3
          · exact way_max_ln a0 a1 a2 a3 a4 a5 a6 a7 a8 w0 w1 w2 w3 w4 w5 w6 w7 w8 w h2 h1 hm hq h3
        · by_cases h3 : 0 < a1
          · exact way_max_gy a0 a1 a2 a3 a4 a5 a6 a7 a8 w0 w1 w2 w3 w4 w5 w6 w7 w8 w h2 h1 hm hq h3
          · exact way_max_gn a0 a1 a2 a3 a4 a5 a6 a7 a8 w0 w1 w2 w3 w4 w5 w6 w7 w8 w h2 h1 hm hq h3
      · by_cases hl : wrap64 (a0 - a4) < rcOf a6 a7 a8
        · by_cases h3 : 0 < a1
          · exact way_held_gy a0 a1 a2 a3 a4 a5 a6 a7 a8 w0 w1 w2 w3 w4 w5 w6 w7 w8 w h2 h1 hm hl h3
          · exact way_held_gn a0 a1 a2 a3 a4 a5 a6 a7 a8 w0 w1 w2 w3 w4 w5 w6 w7 w8 w h2 h1 hm hl h3
        · by_cases hq : rcOf a6 a7 a8 < wrap64 (a0 - a4)
          · by_cases h3 : 0 < a1
            · exact way_reach_ly a0 a1 a2 a3 a4 a5 a6 a7 a8 w0 w1 w2 w3 w4 w5 w6 w7 w8 w h2 h1 hm hl hq h3
            · exact way_reach_ln a0 a1 a2 a3 a4 a5 a6 a7 a8 w0 w1 w2 w3 w4 w5 w6 w7 w8 w h2 h1 hm hl hq h3
          · by_cases h3 : 0 < a1
            · exact way_reach_gy a0 a1 a2 a3 a4 a5 a6 a7 a8 w0 w1 w2 w3 w4 w5 w6 w7 w8 w h2 h1 hm hl hq h3
            · exact way_reach_gn a0 a1 a2 a3 a4 a5 a6 a7 a8 w0 w1 w2 w3 w4 w5 w6 w7 w8 w h2 h1 hm hl hq h3
    · by_cases hm : rcOf a6 a7 a8 = 1152921504606846976
      · by_cases h3 : 0 < a1
        · exact way_max_ny a0 a1 a2 a3 a4 a5 a6 a7 a8 w0 w1 w2 w3 w4 w5 w6 w7 w8 w h2 h1 hm h3
        · exact way_max_nn a0 a1 a2 a3 a4 a5 a6 a7 a8 w0 w1 w2 w3 w4 w5 w6 w7 w8 w h2 h1 hm h3
      · by_cases hl : wrap64 (a0 - a4) < rcOf a6 a7 a8
        · by_cases h3 : 0 < a1
          · exact way_held_ny a0 a1 a2 a3 a4 a5 a6 a7 a8 w0 w1 w2 w3 w4 w5 w6 w7 w8 w h2 h1 hm hl h3
          · exact way_held_nn a0 a1 a2 a3 a4 a5 a6 a7 a8 w0 w1 w2 w3 w4 w5 w6 w7 w8 w h2 h1 hm hl h3
        · by_cases h3 : 0 < a1
          · exact way_reach_ny a0 a1 a2 a3 a4 a5 a6 a7 a8 w0 w1 w2 w3 w4 w5 w6 w7 w8 w h2 h1 hm hl h3
          · exact way_reach_nn a0 a1 a2 a3 a4 a5 a6 a7 a8 w0 w1 w2 w3 w4 w5 w6 w7 w8 w h2 h1 hm hl h3

/-! ### THE ROW's STEP: WRITTEN OUT: LEAVE IT -/
set_option maxRecDepth 100000 in
theorem lifted (os : Os) (started : os.Started) (H : Type) (enc : TypeId × Value → H) :
    ReturnsInHanded {} Yba.checked os 4 .any (Rows.lawS2299ABytesSpec.pre6 enc Yba.prog Yba.f4 Rows.lawS2299ABytesRow.domain false) (Rows.lawS2299ABytesSpec.post enc Yba.prog Yba.f4 false true false false) := by
  refine returnsInHanded_of_change (C := Yba.checked) own started (by kernel_rfl) Yba.func4
    (ChangeSpec.witness6 (enc := enc) (C := Yba.checked) false ⟨#[], #[.int .i64 0, .int .i64 0, .int .i64 0, .int .i64 0, .int .i64 0, .int .i64 0, .int .u8 0, .string ByteArray.empty, .int .i64 0], []⟩ 8 (by kernel_rfl) (by kernel_rfl) (by kernel_rfl) (by kernel_rfl)) ?_
  intro W base args ds gs before hval0 hW hcnd _
  have hval : ∀ (j : Nat) t v, Yba.f4.params[j]? = some t → args[j]? = some v → Value.okWide Yba.prog W .any base t v := hval0
  have hW' := hW
  obtain ⟨p, q, hA0, hV, rfl, hfz, hnd⟩ := hW
  have hA : DataW.TrodAll enc Yba.prog W 0 (fun _ => true) true Yba.f4.params.toList args.toList ds p := hA0
  rw [Yba.params4] at hA hval
  obtain ⟨v0, vs0, d0, ds0, p0, q0, hargs, rfl, rfl, h0, r0⟩ := trodAll_cons hA
  obtain ⟨v1, vs1, d1, ds1, p1, q1, rfl, rfl, rfl, h1, r1⟩ := trodAll_cons r0
  obtain ⟨v2, vs2, d2, ds2, p2, q2, rfl, rfl, rfl, h2, r2⟩ := trodAll_cons r1
  obtain ⟨v3, vs3, d3, ds3, p3, q3, rfl, rfl, rfl, h3, r3⟩ := trodAll_cons r2
  obtain ⟨v4, vs4, d4, ds4, p4, q4, rfl, rfl, rfl, h4, r4⟩ := trodAll_cons r3
  obtain ⟨v5, vs5, d5, ds5, p5, q5, rfl, rfl, rfl, h5, r5⟩ := trodAll_cons r4
  obtain ⟨v6, vs6, d6, ds6, p6, q6, rfl, rfl, rfl, h6, r6⟩ := trodAll_cons r5
  obtain ⟨v7, vs7, d7, ds7, p7, q7, rfl, rfl, rfl, h7, r7⟩ := trodAll_cons r6
  obtain ⟨v8, vs8, d8, ds8, p8, q8, rfl, rfl, rfl, h8, r8⟩ := trodAll_cons r7
  obtain ⟨rfl, rfl, rfl⟩ := trodAll_nil r8
  obtain rfl : args = #[v0, v1, v2, v3, v4, v5, v6, v7, v8] := by cases args; simp_all
  obtain ⟨rfl, rfl⟩ := trodVars_none hV
  obtain ⟨a0, rfl, rfl, rfl, w0⟩ := open_int Yba.underlying3 (hval 0 3 v0 rfl rfl) h0
  obtain ⟨a1, rfl, rfl, rfl, w1⟩ := open_int Yba.underlying3 (hval 1 3 v1 rfl rfl) h1
  obtain ⟨a2, rfl, rfl, rfl, w2⟩ := open_int Yba.underlying3 (hval 2 3 v2 rfl rfl) h2
  obtain ⟨a3, rfl, rfl, rfl, w3⟩ := open_int Yba.underlying3 (hval 3 3 v3 rfl rfl) h3
  obtain ⟨a4, rfl, rfl, rfl, w4⟩ := open_int Yba.underlying3 (hval 4 3 v4 rfl rfl) h4
  obtain ⟨a5, rfl, rfl, rfl, w5⟩ := open_int Yba.underlying3 (hval 5 3 v5 rfl rfl) h5
  obtain ⟨a6, rfl, rfl, rfl, w6⟩ := open_int Yba.underlying5 (hval 6 5 v6 rfl rfl) h6
  obtain ⟨a7, rfl, rfl, rfl, w7⟩ := open_string Yba.underlying9 (hval 7 9 v7 rfl rfl) h7
  obtain ⟨a8, rfl, rfl, rfl, w8⟩ := open_int Yba.underlying3 (hval 8 3 v8 rfl rfl) h8
  clear hA0 hval0
  simp only [List.append_nil] at hW'
  refine (walk a0 a1 a2 a3 a4 a5 a6 a7 a8 w0 w1 w2 w3 w4 w5 w6 w7 w8 W).mono fun e W' ⟨he, hg⟩ => ?_
  subst he
  exact ⟨_, rfl, post_of_same (pa := []) (pv := []) hW' (fun _ _ _ => (trodAll_cons_mk (shut_bool Yba.underlying4 _) trodAll_mk0)) (fun sp _ => (trodAll_cons_mk (shut_int Yba.underlying3 w0) (trodAll_cons_mk (shut_int Yba.underlying3 w1) (trodAll_cons_mk (shut_int Yba.underlying3 w2) (trodAll_cons_mk (shut_int Yba.underlying3 w3) (trodAll_cons_mk (shut_int Yba.underlying3 w4) (trodAll_cons_mk (shut_int Yba.underlying3 w5) (trodAll_cons_mk (shut_int Yba.underlying5 w6) (trodAll_cons_mk (shut_string Yba.underlying9 w7) (trodAll_cons_mk (shut_int Yba.underlying3 w8) trodAll_mk0)))))))))) (fun _ _ => rfl) rfl
    (hg.frame _) hg.2.1 (ok_one (by kernel_rfl) rfl (okWide_bool_mk Yba.underlying4 _))⟩

theorem over : Rows.lawS2299ABytesRow.holds Yba.pinned (OpenSpec.ofChange Rows.lawS2299ABytesSpec) :=
  OpenClaim.holds_of_wide 4 Yba.f4 rfl rfl rfl rfl rfl rfl rfl ⟨rfl, rfl, rfl, rfl, rfl⟩ rfl rfl rfl rfl rfl (by kernel_rfl) Yba.func4 (by kernel_rfl)
    (of_decide_eq_true (by kernel_rfl)) (by unfold Func.isWrapper; first | (rw [if_pos (by decide +kernel)]; kernel_rfl) | (rw [if_neg (by decide +kernel)]; exact ⟨rfl, rfl⟩))
    (fun os started H enc _ => lifted os started H enc)

/-- ████ THE STATEMENT ████ -/
theorem proved : Rows.LawS2299ABytesSaid :=
  over
end Go.Proofs.Ybulkauoy.lawS2299ABytes
