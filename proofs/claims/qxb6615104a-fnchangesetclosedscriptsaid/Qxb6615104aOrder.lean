import Derived.Test.Qxb6615104aChange
namespace Go.Proofs.Qxb6615104a
open Go.RowKit
set_option linter.unusedSimpArgs false
set_option linter.unusedVariables false

theorem newChange_ns (w : World) :
    Calls Try.prog 6 #[] w fun e w' => e = .returned (.pointer (some ⟨w.heap.size, 0, none⟩)) ∧ StN w' w.heap.size 0 0 ∧ Below w.heap.size w w' := by
  refine (newChange_any w).mono ?_
  rintro e w' ⟨rfl, S, hb⟩
  exact ⟨rfl, by simpa [StN] using S, hb⟩

theorem StN.grown {w w' : World} {b b' : Nat} {c t : Int} (h : StN w b c t) (g : w.grownBy w' (some b')) (hne : b ≠ b') : StN w' b c t :=
  St.kept h g.size (g.block b h.lt (by intro e; injection e with e; exact hne e))

theorem StN.below {w w' : World} {b B : Nat} {c t : Int} (h : StN w b c t) (hb : Below B w w') (hB : b < B) : StN w' b c t := St.below h hb hB

set_option maxHeartbeats 1000000 in
theorem order_main (a0 a1 a2 a3 a4 a5 : Int) (w : World) (r0 : -9223372036854775808 ≤ a0 ∧ a0 ≤ 9223372036854775807) (r1 : -9223372036854775808 ≤ a1 ∧ a1 ≤ 9223372036854775807) (r2 : -9223372036854775808 ≤ a2 ∧ a2 ≤ 9223372036854775807) (r3 : -9223372036854775808 ≤ a3 ∧ a3 ≤ 9223372036854775807) (r4 : -9223372036854775808 ≤ a4 ∧ a4 ≤ 9223372036854775807) (r5 : -9223372036854775808 ≤ a5 ∧ a5 ≤ 9223372036854775807)
    (g1 : (a2 == 0) = false) (g2 : a2 < a4) (g3 : 0 < a4) (g4 : a0 ≤ a4) :
    Calls Try.prog 4 #[.int .i64 a0, .int .i64 a1, .int .i64 a2, .int .i64 a3, .int .i64 a4, .int .i64 a5] w fun e w' => e = .returned (.bool true) ∧ Below w.heap.size w w' := by
  have E1 : Hid (stepC (stepC (stepC 0 0 a0 a1) (stepT 0 a0) a2 a3) (stepT (stepT 0 a0) a2) a4 a5 = a5 ∧ stepT (stepT (stepT 0 a0) a2) a4 = a4) := by
    unfold Hid stepC stepT; split <;> split <;> omega
  have E2 : Hid (stepC (stepC 0 0 a0 a1) (stepT 0 a0) a4 a5 = a5 ∧ stepT (stepT 0 a0) a4 = a4) := by
    unfold Hid stepC stepT; split <;> omega
  have E3 : Hid (stepC a5 a4 a2 a3 = a5 ∧ stepT a4 a2 = a4) := by
    have h : a2 ≠ 0 := by simpa using g1
    unfold Hid stepC stepT
    rw [if_pos ⟨h, g2⟩, if_neg (by omega)]
    exact ⟨rfl, rfl⟩
  go_enter Try.func4, Try.ntmps4
  go_wp2_with fail
  refine (newChange_ns _).mono ?_
  rintro e w1 ⟨rfl, S1, hb1⟩
  go_wp2_with fail
  refine (zset_ns w.heap.size 0 0 a0 a1 w1 S1 r0.1 r0.2 r1.1 r1.2).mono ?_
  rintro e w2 ⟨rfl, S2, G2⟩
  have B2 := hb1.grown G2 hb1.size (by intro k e; injection e with e; omega)
  clear hb1 G2 S1
  go_wp2_with fail
  refine (zset_ns w.heap.size _ _ a2 a3 w2 S2 r2.1 r2.2 r3.1 r3.2).mono ?_
  rintro e w3 ⟨rfl, S3, G3⟩
  have B3 := B2.grown G3 B2.size (by intro k e; injection e with e; omega)
  clear B2 G3 S2
  go_wp2_with fail
  refine (zset_ns w.heap.size _ _ a4 a5 w3 S3 r4.1 r4.2 r5.1 r5.2).mono ?_
  rintro e w4 ⟨rfl, S4, G4⟩
  have B4 := B3.grown G4 B3.size (by intro k e; injection e with e; omega)
  rw [E1.out.1, E1.out.2] at S4
  clear B3 G4 S3
  go_wp2_with fail
  refine (newChange_ns _).mono ?_
  rintro e w5 ⟨rfl, Z1, hb5⟩
  have hlt : w.heap.size < w4.heap.size := S4.lt
  have S5 := S4.below hb5 hlt
  have B5 := B4.trans (hb5.mono (by omega))
  clear B4 hb5 S4
  go_wp2_with fail
  refine (zset_ns w4.heap.size 0 0 a0 a1 w5 Z1 r0.1 r0.2 r1.1 r1.2).mono ?_
  rintro e w6 ⟨rfl, Z2, G6⟩
  have S6 := S5.grown G6 (by omega)
  have B6 := B5.grown G6 B5.size (by intro k e; injection e with e; omega)
  clear B5 G6 S5 Z1
  go_wp2_with fail
  refine (zset_ns w4.heap.size _ _ a4 a5 w6 Z2 r4.1 r4.2 r5.1 r5.2).mono ?_
  rintro e w7 ⟨rfl, Z3, G7⟩
  have S7 := S6.grown G7 (by omega)
  have B7 := B6.grown G7 B6.size (by intro k e; injection e with e; omega)
  rw [E2.out.1, E2.out.2] at Z3
  clear B6 G7 S6 Z2
  go_wp2_with fail
  refine (zset_ns w4.heap.size _ _ a2 a3 w7 Z3 r2.1 r2.2 r3.1 r3.2).mono ?_
  rintro e w8 ⟨rfl, Z4, G8⟩
  have S8 := S7.grown G8 (by omega)
  have B8 := B7.grown G8 B7.size (by intro k e; injection e with e; omega)
  rw [E3.out.1, E3.out.2] at Z4
  clear B7 G8 S7 Z3
  have l1 := S8.lt
  have l2 := Z4.lt
  go_wp2_with fail
  refine (zclosed_ns w.heap.size _ _ w8 S8 r5.1 r5.2).mono ?_
  rintro e w9 ⟨rfl, hb9⟩
  have S9 := S8.below hb9 l1
  have Z9 := Z4.below hb9 l2
  have B9 := B8.trans (hb9.mono (by omega))
  have l3 := S9.lt
  have l4 := Z9.lt
  clear B8 S8 Z4
  go_wp2_with fail
  refine (zclosed_ns w4.heap.size _ _ w9 Z9 r5.1 r5.2).mono ?_
  rintro e w10 ⟨rfl, hb10⟩
  have S10 := S9.below hb10 l3
  have Z10 := Z9.below hb10 l4
  have B10 := B9.trans (hb10.mono (by omega))
  have l5 := S10.lt
  have l6 := Z10.lt
  clear B9 S9 Z9
  go_wp2_with fail
  refine (zturned_ns w.heap.size _ _ w10 S10 r4.1 r4.2).mono ?_
  rintro e w11 ⟨rfl, hb11⟩
  have Z11 := Z10.below hb11 l6
  have B11 := B10.trans (hb11.mono (by omega))
  go_wp2_with fail
  refine (zturned_ns w4.heap.size _ _ w11 Z11 r4.1 r4.2).mono ?_
  rintro e w12 ⟨rfl, hb12⟩
  have B12 := B11.trans (hb12.mono (by have := Z11.lt; omega))
  go_wp2_with fail
  go_ret
  exact ⟨by simp, B12⟩
end Go.Proofs.Qxb6615104a
