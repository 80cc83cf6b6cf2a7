import Derived.Test.Qxb6609012aFmtPar
namespace Go.Proofs.Qxb6609012aFmt
open Go.RowKit
set_option linter.unusedSimpArgs false
set_option linter.unusedVariables false

set_option maxRecDepth 20000 in
set_option maxHeartbeats 4000000 in
theorem number_any (b I M hi n d0 d1 : Nat) (lo : Int) (S what T X : ByteArray) (w : World) (hP : Par w b S I) (hM : S.size = M) (hIM : I + 2 ≤ M) (hMb : M ≤ 4194304) (k0 : isD d0 = true) (k1 : isD d1 = true)
    (g0 : ∀ h, (S[I]'h).toNat = d0) (g1 : ∀ h, (S[I + 1]'h).toNat = d1) (d2 : Nat) (g2 : ∀ h, (S[I + 2]'h).toNat = d2) (h10 : 10 ≤ hi) (h99 : hi ≤ 99) (hlo0 : -9223372036854775808 ≤ lo) (hlo1 : lo ≤ 9223372036854775807)
    (bad : Prop) (HB : Hid (bad ↔ ((I + 2 < M ∧ isD d2 = true) ∨ (n : Int) < lo ∨ (hi : Int) < (n : Int)))) (hT : T.size = 2) (HT : Hid (∀ W, Calls Tryf.prog 12 #[.int .i64 hi] W fun e w' => e = .returned (.string T) ∧ w' = W)) (hX : S.extract I (I + 2) = X) (HX : Hid (∀ W, Calls Tryf.prog 15 #[.string X] W fun e w' => e = .returned (.tuple #[.int .i64 n, .nilIface]) ∧ Below W.heap.size W w')) :
    Calls Tryf.prog 10 #[.pointer (some ⟨b, 0, none⟩), .string what, .int .i64 lo, .int .i64 hi] w fun e w' => NumOut e w w' b I n bad := by
  have D0 := Hid.intro' (fun W => digit d0 W)
  have D1 := Hid.intro' (fun W => digit d1 W)
  have D2 := Hid.intro' (fun W => digit d2 W)
  rw [k0] at D0
  rw [k1] at D1
  have HP : Hid (Par w b S I) := hP
  have HG0 := Hid.intro' g0
  have HG1 := Hid.intro' g1
  have HG2 := Hid.intro' g2
  have HXX := Hid.intro' hX
  have c1 := hP.c1
  clear hP g0 g1 g2 k0 k1 hX
  go_enter Tryf.func10, Tryf.ntmps10
  go_wp2
  go_loopw [17] (fun _ wr => ∃ k : Nat, k ≤ 2 ∧ Hid (Par wr b S (I + k)) ∧ Below b w wr) (fun _ wr => match wr.cell? ⟨b, 1, none⟩ with | some v => I + 2 - (intOf v).toNat | none => 0)
  case atStart => exact ⟨0, by omega, HP, Below.refl _ _⟩
  case round =>
    clear c1
    obtain ⟨k, hk, HPk, hb⟩ := hrel
    have p0 := HPk.out.c0
    have p1 := HPk.out.c1
    have pf := HPk.out.f1
    have plt := HPk.out.lt
    obtain ⟨J, hJ⟩ : ∃ J, I + k = J := ⟨_, rfl⟩
    have HJ := Hid.intro' hJ
    rw [hJ] at p1 HPk
    by_cases hk2 : k < 2
    · obtain ⟨d, hd, HDd⟩ : ∃ d, (∀ h, (S[J]'h).toNat = d) ∧ Hid (∀ W, Calls Tryf.prog 11 #[.int .u8 d] W fun e w' => e = .returned (.bool true) ∧ w' = W) := by
        by_cases e : k = 0
        · subst e; subst hJ; exact ⟨d0, HG0.out, D0⟩
        · obtain rfl : k = 1 := by omega
          subst hJ; exact ⟨d1, HG1.out, D1⟩
      have j0 : (0 : Int) ≤ (J : Int) := by omega
      have j1 : (J : Int) < (M : Int) := by omega
      have j2 : (J : Int) - (I : Int) < 2 := by omega
      clear hJ
      go_wp2_with fail
      go_quiet (first | (go_at_call 11; with_reducible exact Calls.quiet_of_same (HDd.out _)) | (go_at_call 12; with_reducible exact Calls.quiet_of_same (HT.out _)))
      go_wp2
      have HPn := Par.step HPk.out nq
      have e1 : I + (k + 1) = J + 1 := by have := HJ.out; omega
      go_roundw
      case rel => exact ⟨k + 1, by omega, by rw [e1]; exact HPn, (below_drewN hb nq).setCell (Nat.le_refl _) _⟩
      case measure =>
        have q1 := HPn.c1
        have hJJ := HJ.out
        rw [q1, p1]
        simp [intOf]
        omega
    · obtain rfl : k = 2 := by omega
      have hg2 : ∀ h, (S[J]'h).toNat = d2 := by subst hJ; exact HG2.out
      have hX : S.extract I J = X := by subst hJ; exact HXX.out
      have i0 : (0 : Int) ≤ (I : Int) := by omega
      have i1 : (I : Int) ≤ (J : Int) := by omega
      have i2 : (J : Int) ≤ (M : Int) := by omega
      have j0 : (0 : Int) ≤ (J : Int) := by omega
      have eJI : ((J : Int) == (I : Int)) = false := by rw [beq_eq_false_iff_ne]; omega
      clear hJ
      by_cases hJM : J < M
      · have j1 : (J : Int) < (M : Int) := by omega
        cases hD2 : isD d2 with
        | true =>
          have HD2 := Hid.intro' hD2
          rw [hD2] at D2
          clear hD2
          have j2f : decide ((J : Int) - (I : Int) < 2) = false := by rw [decide_eq_false_iff_not]; have := HJ.out; omega
          have hbad := Hid.intro' (HB.out.2 (.inl ⟨by have := HJ.out; omega, HD2.out⟩))
          go_wp2_with fail
          go_quiet (first | (go_at_call 11; with_reducible exact Calls.quiet_of_same (D2.out _)) | (go_at_call 12; with_reducible exact Calls.quiet_of_same (HT.out _)))
          have HPq : Hid (Par (wr.drewN nq) b S J) := HPk.out.below (below_drewN (Below.refl _ _) nq)
          go_wp2_with fail
          refine (peek_at b J M d2 S _ HPq.out hM hJM hg2).mono ?_
          rintro e w2 ⟨rfl, hb2⟩
          have HPe := Hid.intro' (HPq.out.below hb2)
          have q0 := HPe.out.c0
          have q1 := HPe.out.c1
          have hbe : Below b w w2 := (below_drewN hb nq).trans (hb2.mono (Nat.le_of_lt HPq.out.lt))
          clear p0 p1 pf plt
          go_wp2_with fail
          refine (D2.out _).mono ?_
          rintro e w2' ⟨rfl, rfl⟩
          go_wp2_with fail
          refine (HT.out _).mono ?_
          rintro e w3 ⟨rfl, rfl⟩
          go_wp2_with fail
          refine (errA what lo hi 2 w3.heap.size _ (by simp) (by simp) (by simp) (by simp) (by simp)).mono ?_
          rintro e w4 ⟨a4, rfl, hb4⟩
          have HBA := Hid.intro' (((Below.refl w3.heap.size w3).alloc (Nat.le_refl _) _).trans (hb4.mono (by simp)))
          go_wp2
          go_ret2
          exact NumOut.no hbad.out (HPe.out.below HBA.out) HJ.out (hbe.trans (HBA.out.mono (Nat.le_of_lt HPe.out.lt)))
        | false =>
          have HD2 := Hid.intro' hD2
          rw [hD2] at D2
          clear hD2
          go_wp2_with fail
          go_quiet ((go_at_call 11; with_reducible exact Calls.quiet_of_same (D2.out _)))
          have HPq : Hid (Par (wr.drewN nq) b S J) := HPk.out.below (below_drewN (Below.refl _ _) nq)
          go_wp2_with fail
          refine (peek_at b J M d2 S _ HPq.out hM hJM hg2).mono ?_
          rintro e w2 ⟨rfl, hb2⟩
          have HPe := Hid.intro' (HPq.out.below hb2)
          have q0 := HPe.out.c0
          have q1 := HPe.out.c1
          have hbe : Below b w w2 := (below_drewN hb nq).trans (hb2.mono (Nat.le_of_lt HPq.out.lt))
          have HBD : Hid (Below w2.heap.size w2 w2.drew) := (Below.refl _ _).drew
          clear p0 p1 pf plt
          go_wp2_with fail
          refine (D2.out _).mono ?_
          rintro e w2' ⟨rfl, rfl⟩
          go_wp2_with fail
          go_region_with (go_at_call 15; (with_reducible refine (HX.out _).mono ?_); rintro e w3 ⟨rfl, hb3⟩)
          all_goals
            have HP3 := Hid.intro' (HPe.out.below (HBD.out.trans hb3))
            have hbw3 := hbe.trans ((HBD.out.trans hb3).mono (Nat.le_of_lt HPe.out.lt))
            by_cases l1 : (n : Int) < lo
            · have hbad := Hid.intro' (HB.out.2 (.inr (.inl l1)))
              go_wp2_with fail
              refine (errB what n lo hi w3.heap.size _ (by simp) (by simp) (by simp) (by simp) (by simp)).mono ?_
              rintro e w4 ⟨a4, rfl, hb4⟩
              have HBA := Hid.intro' (((Below.refl w3.heap.size w3).alloc (Nat.le_refl _) _).trans (hb4.mono (by simp)))
              go_wp2
              go_ret2
              exact NumOut.no hbad.out (HP3.out.below HBA.out) HJ.out (hbw3.trans (HBA.out.mono (Nat.le_of_lt HP3.out.lt)))
            · by_cases l2 : (hi : Int) < (n : Int)
              · have hbad := Hid.intro' (HB.out.2 (.inr (.inr l2)))
                go_wp2_with fail
                refine (errB what n lo hi w3.heap.size _ (by simp) (by simp) (by simp) (by simp) (by simp)).mono ?_
                rintro e w4 ⟨a4, rfl, hb4⟩
                have HBA := Hid.intro' (((Below.refl w3.heap.size w3).alloc (Nat.le_refl _) _).trans (hb4.mono (by simp)))
                go_wp2
                go_ret2
                exact NumOut.no hbad.out (HP3.out.below HBA.out) HJ.out (hbw3.trans (HBA.out.mono (Nat.le_of_lt HP3.out.lt)))
              · have hok := Hid.intro' (show ¬ bad from fun hb => (fun h => h.elim (fun h => by have := h.2; rw [HD2.out] at this; cases this) (fun h => h.elim (fun h => by omega) (fun h => by omega))) (HB.out.1 hb))
                go_wp2
                go_ret2
                exact NumOut.yes hok.out HP3.out HJ.out hbw3
      · have j1f : decide ((J : Int) < (M : Int)) = false := by rw [decide_eq_false_iff_not]; omega
        go_wp2_with fail
        go_quiet (fail)
        have HPq : Hid (Par (wr.drewN nq) b S J) := HPk.out.below (below_drewN (Below.refl _ _) nq)
        have D00 := Hid.intro' (fun W => digit 0 W)
        rw [show isD 0 = false from rfl] at D00
        go_wp2_with fail
        refine (peek_end b J M S _ HPq.out hM hJM).mono ?_
        rintro e w2 ⟨rfl, hb2⟩
        have HPe := Hid.intro' (HPq.out.below hb2)
        have q0 := HPe.out.c0
        have q1 := HPe.out.c1
        have hbe : Below b w w2 := (below_drewN hb nq).trans (hb2.mono (Nat.le_of_lt HPq.out.lt))
        have HBD : Hid (Below w2.heap.size w2 w2.drew) := (Below.refl _ _).drew
        clear p0 p1 pf plt j1f
        go_wp2_with fail
        refine (D00.out _).mono ?_
        rintro e w2' ⟨rfl, rfl⟩
        go_wp2_with fail
        go_region_with (go_at_call 15; (with_reducible refine (HX.out _).mono ?_); rintro e w3 ⟨rfl, hb3⟩)
        all_goals
          have HP3 := Hid.intro' (HPe.out.below (HBD.out.trans hb3))
          have hbw3 := hbe.trans ((HBD.out.trans hb3).mono (Nat.le_of_lt HPe.out.lt))
          by_cases l1 : (n : Int) < lo
          · have hbad := Hid.intro' (HB.out.2 (.inr (.inl l1)))
            go_wp2_with fail
            refine (errB what n lo hi w3.heap.size _ (by simp) (by simp) (by simp) (by simp) (by simp)).mono ?_
            rintro e w4 ⟨a4, rfl, hb4⟩
            have HBA := Hid.intro' (((Below.refl w3.heap.size w3).alloc (Nat.le_refl _) _).trans (hb4.mono (by simp)))
            go_wp2
            go_ret2
            exact NumOut.no hbad.out (HP3.out.below HBA.out) HJ.out (hbw3.trans (HBA.out.mono (Nat.le_of_lt HP3.out.lt)))
          · by_cases l2 : (hi : Int) < (n : Int)
            · have hbad := Hid.intro' (HB.out.2 (.inr (.inr l2)))
              go_wp2_with fail
              refine (errB what n lo hi w3.heap.size _ (by simp) (by simp) (by simp) (by simp) (by simp)).mono ?_
              rintro e w4 ⟨a4, rfl, hb4⟩
              have HBA := Hid.intro' (((Below.refl w3.heap.size w3).alloc (Nat.le_refl _) _).trans (hb4.mono (by simp)))
              go_wp2
              go_ret2
              exact NumOut.no hbad.out (HP3.out.below HBA.out) HJ.out (hbw3.trans (HBA.out.mono (Nat.le_of_lt HP3.out.lt)))
            · have hok := Hid.intro' (show ¬ bad from fun hb => (fun h => h.elim (fun h => by have := HJ.out; omega) (fun h => h.elim (fun h => by omega) (fun h => by omega))) (HB.out.1 hb))
              go_wp2
              go_ret2
              exact NumOut.yes hok.out HP3.out HJ.out hbw3
end Go.Proofs.Qxb6609012aFmt
