import Derived.Test.Qxb6615104aProg
import Derived.Test.Qxb6615104aBits
import Derived.WalkKit
import Derived.WalkSpells
import Derived.WalkLawsBesides
namespace Go.Proofs.Qxb6615104a
open Go.RowKit
set_option linter.unusedSimpArgs false
set_option linter.unusedVariables false
attribute [local go_sem] and_mono and2_mono and_mask andNot_zero or_zero

set_option maxHeartbeats 400000 in
theorem nsec_any (b off : Nat) (n : Int) (w : World) (hc : w.cell? ⟨b, off, none⟩ = some (.int .u64 n)) (h0 : 0 ≤ n) (h1 : n < 1073741824) :
    Calls Try.prog 22 #[.pointer (some ⟨b, off, none⟩)] w fun e w' => e = .returned (.int .i32 n) ∧ w' = w := by
  go_enter Try.func22, Try.ntmps22
  go_wp2
  go_ret
  exact ⟨rfl, rfl⟩

set_option maxHeartbeats 400000 in
theorem sec_any (b off : Nat) (n s : Int) (w : World) (hc : w.cell? ⟨b, off, none⟩ = some (.int .u64 n)) (hd : w.cell? ⟨b, off + 1, none⟩ = some (.int .i64 s)) (h0 : 0 ≤ n) (h1 : n < 1073741824) :
    Calls Try.prog 21 #[.pointer (some ⟨b, off, none⟩)] w fun e w' => e = .returned (.int .i64 s) ∧ w' = w := by
  go_enter Try.func21, Try.ntmps21
  go_wp2
  go_ret
  exact ⟨rfl, rfl⟩

set_option maxHeartbeats 400000 in
theorem addSec_any (b off : Nat) (n d : Int) (w : World) (hc : w.cell? ⟨b, off, none⟩ = some (.int .u64 n)) (hd : w.cell? ⟨b, off + 1, none⟩ = some (.int .i64 0)) (hf : w.frozen? ⟨b, off + 1, none⟩ = false) (h0 : 0 ≤ n) (h1 : n < 1073741824) (d0 : -9223372036854775808 ≤ d) (d1 : d ≤ 9223372036854775807) :
    Calls Try.prog 23 #[.pointer (some ⟨b, off, none⟩), .int .i64 d] w fun e w' => e = .returned (.tuple #[]) ∧ w' = w.setCell ⟨b, off + 1, none⟩ (.int .i64 d) := by
  go_enter Try.func23, Try.ntmps23
  go_wp2
  go_end0
  exact ⟨rfl, rfl⟩

/-- The time 'ns' nanoseconds after the zero time, as Go lays it out. -/
def tv (ns : Int) : Value := .agg #[.int .u64 (ns % 1000000000), .int .i64 (ns / 1000000000), .pointer none]

theorem divs (ns : Int) : ns.tdiv 1000000000 * 1000000000 + ns.tmod 1000000000 = ns ∧ (0 ≤ ns → 0 ≤ ns.tmod 1000000000 ∧ ns.tmod 1000000000 < 1000000000) ∧ (ns < 0 → -1000000000 < ns.tmod 1000000000 ∧ ns.tmod 1000000000 ≤ 0) := by
  refine ⟨by have := Int.mul_tdiv_add_tmod ns 1000000000; omega, fun h => ?_, fun h => ?_⟩
  · exact ⟨Int.tmod_nonneg _ h, Int.tmod_lt_of_pos _ (by decide)⟩
  · have h2 : (-ns).tmod 1000000000 = - ns.tmod 1000000000 := Int.neg_tmod _ _
    have h3 := Int.tmod_nonneg (a := -ns) 1000000000 (by omega)
    have h4 := Int.tmod_lt_of_pos (-ns) (b := 1000000000) (by decide)
    omega

theorem w32 (r : Int) (h0 : -2147483648 ≤ r) (h1 : r ≤ 2147483647) : wrap32 r = r := by
  unfold wrap32; omega

set_option maxHeartbeats 400000 in
theorem add_pos (ns q r : Int) (w : World) (hq : ns.tdiv 1000000000 = q) (hr : ns.tmod 1000000000 = r) (r0 : 0 ≤ r) (r1 : r < 1000000000) (q0 : -9223372037 < q) (q1 : q < 9223372037) :
    Calls Try.prog 16 #[.agg #[.int .u64 0, .int .i64 0, .pointer none], .int .i64 ns] w fun e w' => e = .returned (.agg #[.int .u64 r, .int .i64 q, .pointer none]) ∧ Below w.heap.size w w' := by
  have hw := w32 r (by omega) (by omega)
  have hr3 : r < 1073741824 := by omega
  go_enter Try.func16, Try.ntmps16
  go_wp2
  go_end0
  go_wp2
  exact bodyPost_ret (v := .agg #[.int .u64 r, .int .i64 q, .pointer none]) (by simp [results, Try.results16, go_sem]) rfl ⟨rfl, ((Below.refl _ _).alloc (Nat.le_refl _) _).alloc (by simp) _⟩

set_option maxHeartbeats 400000 in
theorem add_neg (ns q r : Int) (w : World) (hq : ns.tdiv 1000000000 = q) (hr : ns.tmod 1000000000 = r) (r0 : -1000000000 < r) (r1 : r < 0) (q0 : -9223372037 < q) (q1 : q < 9223372037) :
    Calls Try.prog 16 #[.agg #[.int .u64 0, .int .i64 0, .pointer none], .int .i64 ns] w fun e w' => e = .returned (.agg #[.int .u64 (r + 1000000000), .int .i64 (q - 1), .pointer none]) ∧ Below w.heap.size w w' := by
  have hw := w32 r (by omega) (by omega)
  have hw2 := w32 (r + 1000000000) (by omega) (by omega)
  have hr3 : r + 1000000000 < 1073741824 := by omega
  have hr4 : 0 ≤ r + 1000000000 := by omega
  go_enter Try.func16, Try.ntmps16
  go_wp2
  go_end0
  go_wp2
  exact bodyPost_ret (v := .agg #[.int .u64 (r + 1000000000), .int .i64 (q - 1), .pointer none]) (by simp [results, Try.results16, go_sem]) rfl ⟨rfl, ((Below.refl _ _).alloc (Nat.le_refl _) _).alloc (by simp) _⟩

theorem add_any (ns : Int) (w : World) (d0 : -9223372036854775808 ≤ ns) (d1 : ns ≤ 9223372036854775807) :
    Calls Try.prog 16 #[.agg #[.int .u64 0, .int .i64 0, .pointer none], .int .i64 ns] w fun e w' => e = .returned (tv ns) ∧ Below w.heap.size w w' := by
  have ⟨h1, h2, h3⟩ := divs ns
  by_cases hn : ns.tmod 1000000000 < 0
  · have h4 : ns < 0 := by
      by_cases h : ns < 0
      · exact h
      · have := h2 (by omega); omega
    have h5 := h3 h4
    refine (add_neg ns _ _ w rfl rfl (by omega) hn (by omega) (by omega)).mono ?_
    rintro e w' ⟨rfl, hb⟩
    refine ⟨?_, hb⟩
    unfold tv
    have e1 : ns.tmod 1000000000 + 1000000000 = ns % 1000000000 := by omega
    have e2 : ns.tdiv 1000000000 - 1 = ns / 1000000000 := by omega
    rw [e1, e2]
  · have h5 : ns.tmod 1000000000 < 1000000000 := by
      by_cases h : ns < 0
      · have := h3 h; omega
      · exact (h2 (by omega)).2
    refine (add_pos ns _ _ w rfl rfl (by omega) h5 (by omega) (by omega)).mono ?_
    rintro e w' ⟨rfl, hb⟩
    refine ⟨?_, hb⟩
    unfold tv
    have e1 : ns.tmod 1000000000 = ns % 1000000000 := by omega
    have e2 : ns.tdiv 1000000000 = ns / 1000000000 := by omega
    rw [e1, e2]

theorem add_ns (a n s : Int) (w : World) (h : a = s * 1000000000 + n) (n0 : 0 ≤ n) (n1 : n < 1000000000) (d0 : -9223372036854775808 ≤ a) (d1 : a ≤ 9223372036854775807) :
    Calls Try.prog 16 #[.agg #[.int .u64 0, .int .i64 0, .pointer none], .int .i64 a] w fun e w' => e = .returned (.agg #[.int .u64 n, .int .i64 s, .pointer none]) ∧ Below w.heap.size w w' := by
  refine (add_any a w d0 d1).mono ?_
  rintro e w' ⟨rfl, hb⟩
  refine ⟨?_, hb⟩
  unfold tv
  have e1 : a % 1000000000 = n := by omega
  have e2 : a / 1000000000 = s := by omega
  rw [e1, e2]

set_option maxHeartbeats 400000 in
theorem isZero_core (n s : Int) (w : World) :
    Calls Try.prog 18 #[.agg #[.int .u64 n, .int .i64 s, .pointer none]] w fun e w' => e = .returned (.bool (decide (n = 0 ∧ s = 0))) ∧ Below w.heap.size w w' := by
  by_cases hn : n = 0
  · subst hn
    by_cases hs : s = 0
    · subst hs
      go_enter Try.func18, Try.ntmps18
      go_wp2
      go_ret
      exact ⟨rfl, (Below.refl _ _).alloc (Nat.le_refl _) _⟩
    · have h1 : (s == 0) = false := by simpa using hs
      go_enter Try.func18, Try.ntmps18
      go_wp2
      go_ret
      exact ⟨by simp [hs], (Below.refl _ _).alloc (Nat.le_refl _) _⟩
  · have h1 : (n == 0) = false := by simpa using hn
    go_enter Try.func18, Try.ntmps18
    go_wp2
    go_ret
    exact ⟨by simp [hn], (Below.refl _ _).alloc (Nat.le_refl _) _⟩

set_option maxHeartbeats 400000 in
theorem before_core (n1 s1 n2 s2 : Int) (w : World) (a0 : 0 ≤ n1) (a1 : n1 < 1073741824) (b0 : 0 ≤ n2) (b1 : n2 < 1073741824) :
    Calls Try.prog 19 #[.agg #[.int .u64 n1, .int .i64 s1, .pointer none], .agg #[.int .u64 n2, .int .i64 s2, .pointer none]] w fun e w' => e = .returned (.bool (decide (s1 < s2 ∨ s1 = s2 ∧ n1 < n2))) ∧ Below w.heap.size w w' := by
  by_cases h1 : s1 < s2
  · go_enter Try.func19, Try.ntmps19
    go_wp2
    go_ret
    exact ⟨by simp [h1], ((Below.refl _ _).alloc (Nat.le_refl _) _).alloc (by simp) _⟩
  · by_cases h2 : s1 = s2
    · subst h2
      by_cases h3 : n1 < n2
      all_goals
        go_enter Try.func19, Try.ntmps19
        go_wp2
        go_ret
        exact ⟨by simp [h3], ((Below.refl _ _).alloc (Nat.le_refl _) _).alloc (by simp) _⟩
    · have h4 : (s1 == s2) = false := by simpa using h2
      go_enter Try.func19, Try.ntmps19
      go_wp2
      go_ret
      exact ⟨by simp [h1, h2], ((Below.refl _ _).alloc (Nat.le_refl _) _).alloc (by simp) _⟩

set_option maxHeartbeats 400000 in
theorem after_core (n1 s1 n2 s2 : Int) (w : World) (a0 : 0 ≤ n1) (a1 : n1 < 1073741824) (b0 : 0 ≤ n2) (b1 : n2 < 1073741824) :
    Calls Try.prog 15 #[.agg #[.int .u64 n1, .int .i64 s1, .pointer none], .agg #[.int .u64 n2, .int .i64 s2, .pointer none]] w fun e w' => e = .returned (.bool (decide (s2 < s1 ∨ s1 = s2 ∧ n2 < n1))) ∧ Below w.heap.size w w' := by
  by_cases h1 : s2 < s1
  · go_enter Try.func15, Try.ntmps15
    go_wp2
    go_ret
    exact ⟨by simp [h1], ((Below.refl _ _).alloc (Nat.le_refl _) _).alloc (by simp) _⟩
  · by_cases h2 : s1 = s2
    · subst h2
      by_cases h3 : n2 < n1
      all_goals
        go_enter Try.func15, Try.ntmps15
        go_wp2
        go_ret
        exact ⟨by simp [h3], ((Below.refl _ _).alloc (Nat.le_refl _) _).alloc (by simp) _⟩
    · have h4 : (s1 == s2) = false := by simpa using h2
      go_enter Try.func15, Try.ntmps15
      go_wp2
      go_ret
      exact ⟨by simp [h1, h2], ((Below.refl _ _).alloc (Nat.le_refl _) _).alloc (by simp) _⟩

set_option maxHeartbeats 400000 in
theorem equal_same (n s : Int) (w : World) (a0 : 0 ≤ n) (a1 : n < 1073741824) :
    Calls Try.prog 26 #[.agg #[.int .u64 n, .int .i64 s, .pointer none], .agg #[.int .u64 n, .int .i64 s, .pointer none]] w fun e w' => e = .returned (.bool true) ∧ Below w.heap.size w w' := by
  go_enter Try.func26, Try.ntmps26
  go_wp2
  go_ret
  exact ⟨by simp, ((Below.refl _ _).alloc (Nat.le_refl _) _).alloc (by simp) _⟩

theorem bcell {W w1 : World} (hb : Below W.heap.size W w1) : (∀ b o, b < W.heap.size → w1.cell? ⟨b, o, none⟩ = W.cell? ⟨b, o, none⟩) ∧ (∀ b o, b < W.heap.size → w1.frozen? ⟨b, o, none⟩ = W.frozen? ⟨b, o, none⟩) :=
  ⟨fun b o h => hb.cell (p := ⟨b, o, none⟩) h, fun b o h => hb.frozen (p := ⟨b, o, none⟩) h⟩

end Go.Proofs.Qxb6615104a
