import Derived.Test.Qxb6615104aTime
import Derived.Deep.RegionWith
namespace Go.Proofs.Qxb6615104a
open Go.RowKit
set_option linter.unusedSimpArgs false
set_option linter.unusedVariables false
attribute [local go_sem] and_mono and2_mono and_mask andNot_zero or_zero

set_option maxHeartbeats 400000 in
theorem earlier_yes (n1 s1 n2 s2 : Int) (w : World) (a0 : 0 ≤ n1) (a1 : n1 < 1073741824) (b0 : 0 ≤ n2) (b1 : n2 < 1073741824) (hz : ¬ (n1 = 0 ∧ s1 = 0)) (hl : s1 < s2 ∨ s1 = s2 ∧ n1 < n2) :
    Calls Try.prog 14 #[.agg #[.int .u64 n1, .int .i64 s1, .pointer none], .agg #[.int .u64 n2, .int .i64 s2, .pointer none]] w fun e w' => e = .returned (.bool true) ∧ Below w.heap.size w w' := by
  have H1 : Hid (decide (n1 = 0 ∧ s1 = 0) = false) := by simpa [Hid] using hz
  have H2 : Hid (decide (s1 < s2 ∨ s1 = s2 ∧ n1 < n2) = true) := by simpa [Hid] using hl
  clear hz hl
  go_enter Try.func14, Try.ntmps14
  go_wp2_with (first | (go_at_call 18; refine (isZero_core _ _ _).mono ?_; rw [H1.out]; rintro e w1 ⟨rfl, hb⟩; obtain ⟨hc, hf⟩ := bcell hb; have hz := hb.size) | (go_at_call 19; refine (before_core _ _ _ _ _ a0 a1 b0 b1).mono ?_; rw [H2.out]; rintro e w2 ⟨rfl, hb2⟩))
  go_ret
  simp at hz
  exact ⟨rfl, (((Below.refl _ _).alloc (Nat.le_refl _) _).alloc (by simp) _).trans ((hb.mono (by simp; omega)).trans (hb2.mono (by omega)))⟩

set_option maxHeartbeats 400000 in
theorem earlier_no (n1 s1 n2 s2 : Int) (w : World) (a0 : 0 ≤ n1) (a1 : n1 < 1073741824) (b0 : 0 ≤ n2) (b1 : n2 < 1073741824) (hz : ¬ (¬ (n1 = 0 ∧ s1 = 0) ∧ (s1 < s2 ∨ s1 = s2 ∧ n1 < n2))) :
    Calls Try.prog 14 #[.agg #[.int .u64 n1, .int .i64 s1, .pointer none], .agg #[.int .u64 n2, .int .i64 s2, .pointer none]] w fun e w' => e = .returned (.bool false) ∧ Below w.heap.size w w' := by
  by_cases h : n1 = 0 ∧ s1 = 0
  · have H1 : Hid (decide (n1 = 0 ∧ s1 = 0) = true) := by simpa [Hid] using h
    clear hz h
    go_enter Try.func14, Try.ntmps14
    go_wp2_with (first | (go_at_call 18; refine (isZero_core _ _ _).mono ?_; rw [H1.out]; rintro e w1 ⟨rfl, hb⟩))
    go_ret
    exact ⟨rfl, (((Below.refl _ _).alloc (Nat.le_refl _) _).alloc (by simp) _).trans (hb.mono (by simp; omega))⟩
  · have H1 : Hid (decide (n1 = 0 ∧ s1 = 0) = false) := by simpa [Hid] using h
    have H2 : Hid (decide (s1 < s2 ∨ s1 = s2 ∧ n1 < n2) = false) := by
      have : ¬ (s1 < s2 ∨ s1 = s2 ∧ n1 < n2) := fun k => hz ⟨h, k⟩
      exact decide_eq_false this
    clear hz h
    go_enter Try.func14, Try.ntmps14
    go_wp2_with (first | (go_at_call 18; refine (isZero_core _ _ _).mono ?_; rw [H1.out]; rintro e w1 ⟨rfl, hb⟩; obtain ⟨hc, hf⟩ := bcell hb; have hz := hb.size) | (go_at_call 19; refine (before_core _ _ _ _ _ a0 a1 b0 b1).mono ?_; rw [H2.out]; rintro e w2 ⟨rfl, hb2⟩))
    go_ret
    simp at hz
    exact ⟨rfl, (((Below.refl _ _).alloc (Nat.le_refl _) _).alloc (by simp) _).trans ((hb.mono (by simp; omega)).trans (hb2.mono (by omega)))⟩

theorem ret_int {k : IntKind} {a b : Int} (h : a = b) : Ending.returned (.int k a) = .returned (.int k b) := by rw [h]

theorem sub_eq (a n s : Int) (h : a = s * 1000000000 + n) (n0 : 0 ≤ n) (n1 : n < 1000000000) (d0 : -9223372036854775808 ≤ a) (d1 : a ≤ 9223372036854775807) : wrap64 (wrap64 (s * 1000000000) + n) = a := by
  unfold wrap64; omega

set_option maxHeartbeats 400000 in
theorem sub_zero (a n s : Int) (w : World) (h : a = s * 1000000000 + n) (n0 : 0 ≤ n) (n1 : n < 1000000000) (d0 : -9223372036854775808 ≤ a) (d1 : a ≤ 9223372036854775807) :
    Calls Try.prog 17 #[.agg #[.int .u64 n, .int .i64 s, .pointer none], .agg #[.int .u64 0, .int .i64 0, .pointer none]] w fun e w' => e = .returned (.int .i64 a) ∧ Below w.heap.size w w' := by
  have HS : Hid (wrap64 (wrap64 (s * 1000000000) + n) = a) := sub_eq a n s h n0 n1 d0 d1
  have HA : Hid (wrap64 (wrap64 (s * 1000000000) + n) = s * 1000000000 + n) := HS.out.trans h
  have hn : n < 1073741824 := by omega
  have s0 : -9223372038 < s := by omega
  have s1 : s < 9223372038 := by omega
  have hw := w32 n (by omega) (by omega)
  clear h
  go_enter Try.func17, Try.ntmps17
  go_wp2
  go_region_with (first | (go_at_call 16; refine (add_ns _ n s _ HA.out n0 n1 (by rw [HS.out]; exact d0) (by rw [HS.out]; exact d1)).mono ?_; rintro e w1 ⟨rfl, hb⟩; obtain ⟨hc, hf⟩ := bcell hb; have hz := hb.size) | (go_at_call 26; refine (equal_same n s _ n0 hn).mono ?_; rintro e w2 ⟨rfl, hb2⟩))
  all_goals go_wp2
  all_goals go_ret
  all_goals simp at hz
  all_goals exact ⟨ret_int HS.out, ((((Below.refl _ _).alloc (Nat.le_refl _) _).alloc (by simp) _).drew).trans ((hb.mono (by simp; omega)).trans (hb2.mono (by omega)))⟩

set_option maxHeartbeats 400000 in
theorem ztime_ns (a n s : Int) (w : World) (h : a = s * 1000000000 + n) (n0 : 0 ≤ n) (n1 : n < 1000000000) (d0 : -9223372036854775808 ≤ a) (d1 : a ≤ 9223372036854775807) :
    Calls Try.prog 12 #[.int .i64 a] w fun e w' => e = .returned (.agg #[.int .u64 n, .int .i64 s, .pointer none]) ∧ Below w.heap.size w w' := by
  have H : Hid (a = s * 1000000000 + n) := h
  clear h
  go_enter Try.func12, Try.ntmps12
  go_wp2_with (go_at_call 16; refine (add_ns a n s _ H.out n0 n1 d0 d1).mono ?_; rintro e w1 ⟨rfl, hb⟩; obtain ⟨hc, hf⟩ := bcell hb; have hz := hb.size)
  simp at hz
  exact bodyPost_ret (v := .agg #[.int .u64 n, .int .i64 s, .pointer none]) (by simp [results, Try.results12, go_sem, hc]) rfl ⟨rfl, ((((((Below.refl _ _).alloc (Nat.le_refl _) _).trans (hb.mono (by simp))).setCell (by simp) _).setCell (by simp) _).setCell (by simp) _)⟩

set_option maxHeartbeats 400000 in
theorem znanos_ns (a n s : Int) (w : World) (h : a = s * 1000000000 + n) (n0 : 0 ≤ n) (n1 : n < 1000000000) (d0 : -9223372036854775808 ≤ a) (d1 : a ≤ 9223372036854775807) :
    Calls Try.prog 13 #[.agg #[.int .u64 n, .int .i64 s, .pointer none]] w fun e w' => e = .returned (.int .i64 a) ∧ Below w.heap.size w w' := by
  have H : Hid (a = s * 1000000000 + n) := h
  clear h
  go_enter Try.func13, Try.ntmps13
  go_wp2_with (go_at_call 17; refine (sub_zero a n s _ H.out n0 n1 d0 d1).mono ?_; rintro e w1 ⟨rfl, hb⟩)
  go_ret
  exact ⟨rfl, ((Below.refl _ _).alloc (Nat.le_refl _) _).trans (hb.mono (by simp))⟩
end Go.Proofs.Qxb6615104a
