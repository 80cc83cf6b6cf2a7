import Derived.Test.Qxb6609012aFmtErr
import Derived.BigQuiet
import Derived.Deep.QuietTactic
import Derived.Deep.RegionWith
namespace Go.Proofs.Qxb6609012aFmt
open Go.RowKit
set_option linter.unusedSimpArgs false
set_option linter.unusedVariables false

def isD (c : Nat) : Bool := decide (48 ≤ c ∧ c ≤ 57)

set_option maxHeartbeats 400000 in
theorem digit (c : Nat) (w : World) : Calls Tryf.prog 11 #[.int .u8 c] w fun e w' => e = .returned (.bool (isD c)) ∧ w' = w := by
  by_cases a : 48 ≤ c
  · have a' : (48 : Int) ≤ (c : Int) := by omega
    by_cases b : c ≤ 57
    · have b' : (c : Int) ≤ 57 := by omega
      have r : isD c = true := by unfold isD; rw [decide_eq_true_eq]; omega
      rw [r]
      go_enter Tryf.func11, Tryf.ntmps11
      go_wp2
      go_ret
      exact ⟨rfl, rfl⟩
    · have b' : ¬ (c : Int) ≤ 57 := by omega
      have r : isD c = false := by unfold isD; rw [decide_eq_false_iff_not]; omega
      rw [r]
      go_enter Tryf.func11, Tryf.ntmps11
      go_wp2
      go_ret
      exact ⟨rfl, rfl⟩
  · have a' : ¬ (48 : Int) ≤ (c : Int) := by omega
    have r : isD c = false := by unfold isD; rw [decide_eq_false_iff_not]; omega
    rw [r]
    go_enter Tryf.func11, Tryf.ntmps11
    go_wp2
    go_ret
    exact ⟨rfl, rfl⟩

/-- The parser at block b: its text S, its place i. -/
structure Par (w : World) (b : Nat) (S : ByteArray) (i : Nat) : Prop where
  lt : b < w.heap.size
  c0 : w.cell? ⟨b, 0, none⟩ = some (.string S)
  c1 : w.cell? ⟨b, 1, none⟩ = some (.int .i64 i)
  f1 : w.frozen? ⟨b, 1, none⟩ = false

theorem Par.below {w w' : World} {b i : Nat} {S : ByteArray} (h : Par w b S i) (hb : Below w.heap.size w w') : Par w' b S i :=
  ⟨Nat.lt_of_lt_of_le h.lt hb.size, (hb.cell (p := ⟨b, 0, none⟩) h.lt).trans h.c0, (hb.cell (p := ⟨b, 1, none⟩) h.lt).trans h.c1, (hb.frozen (p := ⟨b, 1, none⟩) h.lt).trans h.f1⟩

theorem below_drewN {B : Nat} {a w : World} (h : Below B a w) (n : Nat) : Below B a (w.drewN n) := ⟨h.os, h.tape, h.output, h.size, h.block⟩

set_option maxHeartbeats 400000 in
theorem peek_end (b J M : Nat) (S : ByteArray) (w : World) (hP : Par w b S J) (hM : S.size = M) (h : ¬ J < M) :
    Calls Tryf.prog 13 #[.pointer (some ⟨b, 0, none⟩)] w fun e w' => e = .returned (.int .u8 0) ∧ Below w.heap.size w w' := by
  obtain ⟨_, c0, c1, _⟩ := hP
  have h' : decide ((J : Int) < (M : Int)) = false := by rw [decide_eq_false_iff_not]; omega
  go_enter Tryf.func13, Tryf.ntmps13
  go_wp2_with fail
  go_quiet (fail)
  go_wp2
  go_ret
  exact ⟨rfl, below_drewN (Below.refl _ _) nq⟩

set_option maxHeartbeats 400000 in
theorem peek_at (b J M d : Nat) (S : ByteArray) (w : World) (hP : Par w b S J) (hM : S.size = M) (h : J < M) (hd : ∀ h, (S[J]'h).toNat = d) :
    Calls Tryf.prog 13 #[.pointer (some ⟨b, 0, none⟩)] w fun e w' => e = .returned (.int .u8 d) ∧ Below w.heap.size w w' := by
  obtain ⟨_, c0, c1, _⟩ := hP
  have h' : (J : Int) < (M : Int) := by omega
  have h0 : (0 : Int) ≤ (J : Int) := by omega
  go_enter Tryf.func13, Tryf.ntmps13
  go_wp2_with fail
  go_quiet (fail)
  go_wp2_with fail
  rename_i n1
  go_quiet (fail)
  go_wp2
  go_ret
  exact ⟨rfl, below_drewN (below_drewN (Below.refl _ _) _) _⟩
end Go.Proofs.Qxb6609012aFmt
