import Derived.Test.Qxb6609012aFmtPar
namespace Go.Proofs.Qxb6609012aFmt
open Go.RowKit
set_option linter.unusedSimpArgs false
set_option linter.unusedVariables false

theorem par_new (w : World) (S : ByteArray) (I : Nat) : Par (w.alloc (.cells #[.string S, .int .i64 I] 31)) w.heap.size S I :=
  ⟨by simp, by simp, by simp, by simp⟩

set_option maxHeartbeats 1000000 in
theorem zz_bad (S what : ByteArray) (I hi n : Nat) (lo : Int) (bad : Prop) (hbad : bad) (w : World)
    (HN : Hid (Calls Tryf.prog 10 #[.pointer (some ⟨w.heap.size, 0, none⟩), .string what, .int .i64 lo, .int .i64 hi] (w.alloc (.cells #[.string S, .int .i64 I] 31)) fun e w' => NumOut e (w.alloc (.cells #[.string S, .int .i64 I] 31)) w' w.heap.size I n bad)) :
    Calls Tryf.prog 7 #[.string S, .int .i64 I, .string what, .int .i64 lo, .int .i64 hi] w fun e w' => e = .returned (.tuple #[.int .i64 0, .bool true, .int .i64 ((I + 2 : Nat) : Int)]) ∧ Below w.heap.size w w' := by
  obtain ⟨J, hJ⟩ : ∃ J : Int, ((I + 2 : Nat) : Int) = J := ⟨_, rfl⟩
  rw [hJ]
  have HJ := Hid.intro' hJ
  clear hJ
  go_enter Tryf.func7, Tryf.ntmps7
  go_wp2_with fail
  refine HN.out.mono ?_
  rintro e w2 ⟨v, E, rfl, h1, _, hc, hlt, hb⟩
  obtain ⟨rfl, a, rfl⟩ := h1 hbad
  rw [HJ.out] at hc
  have hb' : Below w.heap.size w w2 := ((Below.refl _ w).alloc (Nat.le_refl _) _).trans hb
  clear hb
  go_wp2_with fail
  go_quiet (fail)
  go_wp2
  go_ret3
  exact ⟨rfl, below_drewN hb' nq⟩

set_option maxHeartbeats 1000000 in
theorem zz_ok (S what : ByteArray) (I hi n : Nat) (lo : Int) (bad : Prop) (hbad : ¬ bad) (w : World)
    (HN : Hid (Calls Tryf.prog 10 #[.pointer (some ⟨w.heap.size, 0, none⟩), .string what, .int .i64 lo, .int .i64 hi] (w.alloc (.cells #[.string S, .int .i64 I] 31)) fun e w' => NumOut e (w.alloc (.cells #[.string S, .int .i64 I] 31)) w' w.heap.size I n bad)) :
    Calls Tryf.prog 7 #[.string S, .int .i64 I, .string what, .int .i64 lo, .int .i64 hi] w fun e w' => e = .returned (.tuple #[.int .i64 n, .bool false, .int .i64 ((I + 2 : Nat) : Int)]) ∧ Below w.heap.size w w' := by
  obtain ⟨J, hJ⟩ : ∃ J : Int, ((I + 2 : Nat) : Int) = J := ⟨_, rfl⟩
  rw [hJ]
  have HJ := Hid.intro' hJ
  clear hJ
  go_enter Tryf.func7, Tryf.ntmps7
  go_wp2_with fail
  refine HN.out.mono ?_
  rintro e w2 ⟨v, E, rfl, _, h1, hc, hlt, hb⟩
  obtain ⟨rfl, rfl⟩ := h1 hbad
  rw [HJ.out] at hc
  have hb' : Below w.heap.size w w2 := ((Below.refl _ w).alloc (Nat.le_refl _) _).trans hb
  clear hb
  go_wp2_with fail
  go_quiet (fail)
  go_wp2
  go_ret3
  exact ⟨rfl, below_drewN hb' nq⟩

/-- The gate. -/
def Gate (r : Ending) (w w' : World) (C : Prop) : Prop := ∃ b, r = .returned (.bool b) ∧ w' = w ∧ (b = true → C)
theorem Gate.no {w : World} {C : Prop} : Gate (.returned (.bool false)) w w C := ⟨_, rfl, rfl, fun e => by cases e⟩
theorem Gate.yes {w : World} {C : Prop} (h : C) : Gate (.returned (.bool true)) w w C := ⟨_, rfl, rfl, fun _ => h⟩

set_option maxHeartbeats 1000000 in
theorem gate8 (p t wh : ByteArray) (a b c : Nat) (ha : p.size = a) (hb : t.size = b) (hc : wh.size = c) (n lo hi : Int) (w : World) (m0 : a ≤ 9223372036854775807) (m1 : b ≤ 9223372036854775807) (m2 : c ≤ 9223372036854775807) :
    Calls Tryf.prog 8 #[.string p, .int .i64 n, .string t, .string wh, .int .i64 lo, .int .i64 hi] w fun r w' => Gate r w w' (a + b + c ≤ 1048576) := by
  by_cases h1 : 1048576 < a
  · have h1' : (1048576 : Int) < (a : Int) := by omega
    go_enter Tryf.func8, Tryf.ntmps8
    go_wp2
    go_ret
    exact Gate.no
  by_cases h2 : 1048576 < b
  · have h2' : (1048576 : Int) < (b : Int) := by omega
    go_enter Tryf.func8, Tryf.ntmps8
    go_wp2
    go_ret
    exact Gate.no
  by_cases h3 : 1048576 < a + b
  · have h3' : (1048576 : Int) < (a : Int) + (b : Int) := by omega
    go_enter Tryf.func8, Tryf.ntmps8
    go_wp2
    go_ret
    exact Gate.no
  by_cases h4 : 1048576 < c
  · have h4' : (1048576 : Int) < (c : Int) := by omega
    go_enter Tryf.func8, Tryf.ntmps8
    go_wp2
    go_ret
    exact Gate.no
  by_cases h5 : 1048576 < a + b + c
  · have h5' : (1048576 : Int) < (a : Int) + (b : Int) + (c : Int) := by omega
    go_enter Tryf.func8, Tryf.ntmps8
    go_wp2
    go_ret
    exact Gate.no
  · have hy := Hid.intro' (show a + b + c ≤ 1048576 by omega)
    go_enter Tryf.func8, Tryf.ntmps8
    go_wp2
    go_ret
    exact Gate.yes hy.out
end Go.Proofs.Qxb6609012aFmt
