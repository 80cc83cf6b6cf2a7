import Derived.Test.Qxb6609012aFmtPeek
import Derived.Lib.SmallJoins
namespace Go.Proofs.Qxb6609012aFmt
open Go.RowKit
set_option linter.unusedSimpArgs false
set_option linter.unusedVariables false

/-- What number leaves. -/
def NumOut (e : Ending) (w w' : World) (b I n : Nat) (bad : Prop) : Prop :=
  ∃ v E, e = .returned (.tuple #[.int .i64 v, E]) ∧ (bad → v = 0 ∧ ∃ a, E = .iface 46 (.pointer (some a))) ∧ (¬ bad → v = (n : Int) ∧ E = .nilIface) ∧ w'.cell? ⟨b, 1, none⟩ = some (.int .i64 ((I + 2 : Nat) : Int)) ∧ b < w'.heap.size ∧ Below b w w'

theorem NumOut.no {w w' : World} {b I n J : Nat} {bad : Prop} {S : ByteArray} {a : Addr} (h : bad) (hp : Par w' b S J) (hJ : I + 2 = J) (hb : Below b w w') : NumOut (.returned (.tuple #[.int .i64 0, .iface 46 (.pointer (some a))])) w w' b I n bad :=
  ⟨0, _, rfl, fun _ => ⟨rfl, _, rfl⟩, fun hn => absurd h hn, by rw [hJ]; exact hp.c1, hp.lt, hb⟩
theorem NumOut.yes {w w' : World} {b I n J : Nat} {bad : Prop} {S : ByteArray} (h : ¬ bad) (hp : Par w' b S J) (hJ : I + 2 = J) (hb : Below b w w') : NumOut (.returned (.tuple #[.int .i64 n, .nilIface])) w w' b I n bad :=
  ⟨_, _, rfl, fun hn => absurd hn h, fun _ => ⟨rfl, rfl⟩, by rw [hJ]; exact hp.c1, hp.lt, hb⟩

theorem Par.step {w : World} {b J : Nat} {S : ByteArray} (h : Par w b S J) (m : Nat) : Par ((w.drewN m).setCell ⟨b, 1, none⟩ (.int .i64 ((J : Int) + 1))) b S (J + 1) := by
  have hb : Below b w ((w.drewN m).setCell ⟨b, 1, none⟩ (.int .i64 ((J : Int) + 1))) := (below_drewN (Below.refl b w) m).setCell (p := ⟨b, 1, none⟩) (Nat.le_refl _) _
  have c0 : (w.drewN m).cell? ⟨b, 0, none⟩ = some (.string S) := h.c0
  have c1 : (w.drewN m).cell? ⟨b, 1, none⟩ = some (.int .i64 J) := h.c1
  have f1 : (w.drewN m).frozen? ⟨b, 1, none⟩ = false := h.f1
  refine ⟨Nat.lt_of_lt_of_le h.lt hb.size, ?_, ?_, ?_⟩
  · have q := World.cell?_setCells_out b [.int .i64 ((J : Int) + 1)] 1 (w.drewN m) ⟨b, 0, none⟩ (fun _ _ => Or.inl (by simp))
    exact q.trans c0
  · exact World.cell?_setCell_same _ _ _ c1
  · exact (World.frozen?_setCell _ _ _ _).trans f1

end Go.Proofs.Qxb6609012aFmt
