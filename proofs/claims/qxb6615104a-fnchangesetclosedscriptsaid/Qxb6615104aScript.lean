import Derived.Test.Qxb6615104aApplied
import Derived.Test.Qxb6615104aOrder
namespace Go.Proofs.Qxb6615104a
open Go.RowKit
set_option linter.unusedSimpArgs false
set_option linter.unusedVariables false

/-! ### No round: the shorter slice is empty -/
set_option maxHeartbeats 400000 in
theorem script_none (a0 a1 : Option Addr) (l0 c0 l1 c1 : Nat) (w : World) (h0 : l0 ≤ 4096) (h1 : l1 ≤ 4096) (h : l0 = 0 ∨ l1 = 0) :
    Calls Try.prog 3 #[.slice a0 l0 c0, .slice a1 l1 c1] w fun e w' => e = .returned (.bool true) ∧ Below w.heap.size w w' := by
  by_cases hlt : l1 < l0
  all_goals
    go_enter Try.func3, Try.ntmps3
    go_wp2_with fail
    refine (bytes_yes a0 a1 l0 c0 l1 c1 _ (by omega)).mono ?_
    rintro e w1 ⟨rfl, rfl⟩
    go_wp2_with fail
    refine (newChange_ns _).mono ?_
    rintro e w2 ⟨rfl, S, hb⟩
    have lt := S.lt
    go_wp2_with fail
    refine wp_loop_rounds 1 ?_
    rw [rounds_succ]
    go_wp2_with fail
    refine wp_loop_rounds 1 ?_
    rw [rounds_succ]
    go_wp2_with fail
    refine wp_loop_rounds 1 ?_
    rw [rounds_succ]
    go_wp2_with fail
    refine (zclosed_ns w1.heap.size 0 0 w2 S (by omega) (by omega)).mono ?_
    rintro e w3 ⟨rfl, hb3⟩
    have S3 := S.below hb3 lt
    go_wp2_with fail
    refine (zturned_ns w1.heap.size 0 0 w3 S3 (by omega) (by omega)).mono ?_
    rintro e w4 ⟨rfl, hb4⟩
    go_wp2_with fail
    go_ret
    exact ⟨by simp, hb.trans ((hb3.mono (by omega)).trans (hb4.mono (by have := S3.lt; omega)))⟩

set_option maxHeartbeats 1600000 in
theorem script_one (b0 o0 b1 o1 l0 c0 l1 c1 : Nat) (z y : List Int) (w : World) (h0 : l0 ≤ 4096) (h1 : l1 ≤ 4096) (hlt : l1 < l0) (p0 : 0 < l0) (p1 : 0 < l1) (k0 : b0 < w.heap.size) (k1 : b1 < w.heap.size)
    (hz : ∀ j, j < l0 → w.cell? ⟨b0, o0 + j, none⟩ = some (.int .i64 (z.getD j 0))) (hy : ∀ j, j < l1 → w.cell? ⟨b1, o1 + j, none⟩ = some (.int .i64 (y.getD j 0)))
    (dz : ∀ n ∈ z, -9223372036854775808 ≤ n ∧ n ≤ 9223372036854775807) (dy : ∀ n ∈ y, -9223372036854775808 ≤ n ∧ n ≤ 9223372036854775807) :
    Calls Try.prog 3 #[.slice (some ⟨b0, o0, none⟩) l0 c0, .slice (some ⟨b1, o1, none⟩) l1 c1] w fun e w' => e = .returned (.bool true) ∧ Below w.heap.size w w' := by
  have HZ : Hid (∀ j, j < l0 → w.cell? ⟨b0, o0 + j, none⟩ = some (.int .i64 (z.getD j 0))) := hz
  have HY : Hid (∀ j, j < l1 → w.cell? ⟨b1, o1 + j, none⟩ = some (.int .i64 (y.getD j 0))) := hy
  have DZ : Hid (∀ n ∈ z, -9223372036854775808 ≤ n ∧ n ≤ 9223372036854775807) := dz
  have DY : Hid (∀ n ∈ y, -9223372036854775808 ≤ n ∧ n ≤ 9223372036854775807) := dy
  clear hz hy dz dy
  go_enter Try.func3, Try.ntmps3
  go_wp2_with fail
  refine (bytes_yes _ _ l0 c0 l1 c1 w (by omega)).mono ?_
  rintro e w1 ⟨rfl, hw1⟩
  subst hw1
  go_wp2_with fail
  refine (newChange_ns _).mono ?_
  rintro e w2 ⟨rfl, S, hb⟩
  go_wp2_with fail
  go_loopw [7] (fun i wr => ∃ k : Nat, k ≤ l1 ∧ i = .int .i64 k ∧ StN wr w1.heap.size (runC z y k) (runT z k) ∧ Below w1.heap.size w1 wr) (fun i _ => l1 - (intOf i).toNat)
  case atStart => exact ⟨0, by omega, rfl, S, hb⟩
  case round =>
    clear S hb
    obtain ⟨k, hk, rfl, S, hb⟩ := hrel
    by_cases hlt2 : k < l1
    · have hcz : wr.cell? ⟨b0, o0 + k, none⟩ = some (.int .i64 (z.getD k 0)) := (hb.cell (p := ⟨b0, o0 + k, none⟩) k0).trans (HZ.out k (by omega))
      have hcy : wr.cell? ⟨b1, o1 + k, none⟩ = some (.int .i64 (y.getD k 0)) := (hb.cell (p := ⟨b1, o1 + k, none⟩) k1).trans (HY.out k (by omega))
      obtain ⟨a, ha⟩ : ∃ a, z.getD k 0 = a := ⟨_, rfl⟩
      obtain ⟨l, hl⟩ : ∃ l, y.getD k 0 = l := ⟨_, rfl⟩
      have ra := getD_bd DZ.out k
      have rl := getD_bd DY.out k
      rw [ha] at hcz ra
      rw [hl] at hcy rl
      have e1 : runT z (k + 1) = stepT (runT z k) (z.getD k 0) := rfl
      have e2 : runC z y (k + 1) = stepC (runC z y k) (runT z k) (z.getD k 0) (y.getD k 0) := rfl
      rw [ha] at e1 e2
      rw [hl] at e2
      have E1 : Hid (runT z (k + 1) = stepT (runT z k) a) := e1
      have E2 : Hid (runC z y (k + 1) = stepC (runC z y k) (runT z k) a l) := e2
      clear e1 e2 ha hl
      have i1 : (0 : Int) ≤ (k : Int) := by omega
      have i2 : (k : Int) < (l0 : Int) := by omega
      have i3 : (k : Int) < (l1 : Int) := by omega
      obtain ⟨c, hc⟩ : ∃ c, runC z y k = c := ⟨_, rfl⟩
      obtain ⟨t, ht⟩ : ∃ t, runT z k = t := ⟨_, rfl⟩
      rw [hc, ht] at S E2
      rw [ht] at E1
      clear hc ht
      have SD : StN wr.drew w1.heap.size c t := St.kept S (Nat.le_refl _) rfl
      go_wp2_with fail
      go_region_with (go_at_call 7; refine (zset_ns w1.heap.size c t a l wr.drew SD ra.1 ra.2 rl.1 rl.2).mono ?_; rintro e w3 ⟨rfl, S3, G3⟩)
      all_goals
        have B3 := (hb.drew).grown G3 hb.size (by intro k e; injection e with e; omega)
        clear S SD hb hcz hcy G3 ra rl
        go_wp2
        go_roundw
        case rel => exact ⟨k + 1, by omega, by go_num, by rw [E1.out, E2.out]; exact S3, B3⟩
        case measure => simp [intOf]; omega
    · obtain rfl : l1 = k := by omega
      have HZ2 : ∀ j, j < l0 → wr.cell? ⟨b0, o0 + j, none⟩ = some (.int .i64 (z.getD j 0)) := fun j hj => (hb.cell (p := ⟨b0, o0 + j, none⟩) k0).trans (HZ.out j hj)
      have HY2 : ∀ j, j < l1 → wr.cell? ⟨b1, o1 + j, none⟩ = some (.int .i64 (y.getD j 0)) := fun j hj => (hb.cell (p := ⟨b1, o1 + j, none⟩) k1).trans (HY.out j hj)
      have HZ3 : Hid (∀ j, j < l0 → wr.cell? ⟨b0, o0 + j, none⟩ = some (.int .i64 (z.getD j 0))) := HZ2
      have HY3 : Hid (∀ j, j < l1 → wr.cell? ⟨b1, o1 + j, none⟩ = some (.int .i64 (y.getD j 0))) := HY2
      clear HZ2 HY2 HZ HY
      go_wp2_with fail
      go_loop [8, 9] (fun t i => ∃ m : Nat, m ≤ l1 ∧ i = .int .i64 m ∧ t = .int .i64 (runT z m)) (fun _ i => l1 - (intOf i).toNat)
      case atStart => exact ⟨0, by omega, rfl, rfl⟩
      case round =>
        obtain ⟨m, hm, rfl, rfl⟩ := hrel
        by_cases hlt3 : m < l1
        · have hcz := HZ3.out m (by omega)
          obtain ⟨a, ha⟩ : ∃ a, z.getD m 0 = a := ⟨_, rfl⟩
          rw [ha] at hcz
          have e1 : runT z (m + 1) = stepT (runT z m) (z.getD m 0) := rfl
          rw [ha] at e1
          have E1 : Hid (runT z (m + 1) = stepT (runT z m) a) := e1
          clear e1 ha
          obtain ⟨T, hT⟩ : ∃ T, runT z m = T := ⟨_, rfl⟩
          rw [hT] at E1 ⊢
          clear hT
          by_cases hTa : T < a
          all_goals
            go_wp2
            go_round
            case rel => exact ⟨m + 1, by omega, by go_num, by rw [E1.out]; unfold stepT; simp [hTa]⟩
            case measure => simp [intOf]; omega
        · obtain rfl : l1 = m := by omega
          have rc := runC_bd (z := z) (y := y) DY.out l1
          have rt := runT_bd (z := z) DZ.out l1
          obtain ⟨c, hc⟩ : ∃ c, runC z y l1 = c := ⟨_, rfl⟩
          obtain ⟨t, ht⟩ : ∃ t, runT z l1 = t := ⟨_, rfl⟩
          rw [hc] at S rc
          rw [ht] at S rt ⊢
          have HC : Hid (runC z y l1 = c) := hc
          clear hc ht
          go_wp2_with fail
          go_loop [10, 11] (fun v i => ∃ m : Nat, m ≤ l1 ∧ i = .int .i64 ((m : Int) - 1) ∧ v = .int .i64 0 ∧ Hid (∀ j, m ≤ j → j < l1 → app z j = false)) (fun _ i => (intOf i + 1).toNat)
          case atStart => exact ⟨l1, by omega, rfl, rfl, fun j h1 h2 => by omega⟩
          case round =>
            obtain ⟨m, hm3, rfl, rfl, HN⟩ := hrel
            by_cases hm0 : m = 0
            · subst hm0
              have hc0 : c = 0 := by rw [← HC.out]; exact runC_none z y 0 l1 (by omega) HN.out
              subst hc0
              go_wp2_with fail
              refine (zclosed_ns w1.heap.size 0 t wr S rc.1 rc.2).mono ?_
              rintro e w3 ⟨rfl, hb3⟩
              have S3 := S.below hb3 S.lt
              go_wp2_with fail
              refine (zturned_ns w1.heap.size 0 t w3 S3 rt.1 rt.2).mono ?_
              rintro e w4 ⟨rfl, hb4⟩
              go_wp2_with fail
              go_ret
              exact ⟨by simp, hb.trans ((hb3.mono (by have := S.lt; omega)).trans (hb4.mono (by have := S3.lt; omega)))⟩
            · obtain ⟨q, rfl⟩ : ∃ q, m = q + 1 := ⟨m - 1, by omega⟩
              rw [show ((q + 1 : Nat) : Int) - 1 = (q : Int) from by omega]
              go_wp2_with fail
              refine (applied_any b0 o0 l0 c0 q z wr (by omega) h0 HZ3.out).mono ?_
              rintro e w5 ⟨rfl, hw5⟩
              rw [hw5]
              clear hw5 w5
              cases happ : app z q with
              | true =>
                have e1 := runC_none z y (q + 1) l1 (by omega) HN.out
                rw [runC_hit z y q happ, HC.out] at e1
                have hcy := HY3.out q (by omega)
                rw [← e1] at hcy
                clear e1 happ
                have i1 : (q : Int) < (l1 : Int) := by omega
                go_wp2_with fail
                refine (zclosed_ns w1.heap.size c t wr S rc.1 rc.2).mono ?_
                rintro e w3 ⟨rfl, hb3⟩
                have S3 := S.below hb3 S.lt
                go_wp2_with fail
                refine (zturned_ns w1.heap.size c t w3 S3 rt.1 rt.2).mono ?_
                rintro e w4 ⟨rfl, hb4⟩
                go_wp2_with fail
                go_ret
                exact ⟨by simp, hb.trans ((hb3.mono (by have := S.lt; omega)).trans (hb4.mono (by have := S3.lt; omega)))⟩
              | false =>
                have HN2 : Hid (∀ j, q ≤ j → j < l1 → app z j = false) := by
                  intro j h1 h2
                  by_cases e : j = q
                  · rw [e]; exact happ
                  · exact HN.out j (by omega) h2
                clear happ
                go_wp2
                go_round
                case rel => exact ⟨q, by omega, by go_num, rfl, HN2⟩
                case measure => simp [intOf]

set_option maxHeartbeats 1600000 in
theorem script_two (b0 o0 b1 o1 l0 c0 l1 c1 : Nat) (z y : List Int) (w : World) (h0 : l0 ≤ 4096) (h1 : l1 ≤ 4096) (hlt : ¬ l1 < l0) (p0 : 0 < l0) (p1 : 0 < l1) (k0 : b0 < w.heap.size) (k1 : b1 < w.heap.size)
    (hz : ∀ j, j < l0 → w.cell? ⟨b0, o0 + j, none⟩ = some (.int .i64 (z.getD j 0))) (hy : ∀ j, j < l1 → w.cell? ⟨b1, o1 + j, none⟩ = some (.int .i64 (y.getD j 0)))
    (dz : ∀ n ∈ z, -9223372036854775808 ≤ n ∧ n ≤ 9223372036854775807) (dy : ∀ n ∈ y, -9223372036854775808 ≤ n ∧ n ≤ 9223372036854775807) :
    Calls Try.prog 3 #[.slice (some ⟨b0, o0, none⟩) l0 c0, .slice (some ⟨b1, o1, none⟩) l1 c1] w fun e w' => e = .returned (.bool true) ∧ Below w.heap.size w w' := by
  have HZ : Hid (∀ j, j < l0 → w.cell? ⟨b0, o0 + j, none⟩ = some (.int .i64 (z.getD j 0))) := hz
  have HY : Hid (∀ j, j < l1 → w.cell? ⟨b1, o1 + j, none⟩ = some (.int .i64 (y.getD j 0))) := hy
  have DZ : Hid (∀ n ∈ z, -9223372036854775808 ≤ n ∧ n ≤ 9223372036854775807) := dz
  have DY : Hid (∀ n ∈ y, -9223372036854775808 ≤ n ∧ n ≤ 9223372036854775807) := dy
  clear hz hy dz dy
  go_enter Try.func3, Try.ntmps3
  go_wp2_with fail
  refine (bytes_yes _ _ l0 c0 l1 c1 w (by omega)).mono ?_
  rintro e w1 ⟨rfl, hw1⟩
  subst hw1
  go_wp2_with fail
  refine (newChange_ns _).mono ?_
  rintro e w2 ⟨rfl, S, hb⟩
  go_wp2_with fail
  go_loopw [7] (fun i wr => ∃ k : Nat, k ≤ l0 ∧ i = .int .i64 k ∧ StN wr w1.heap.size (runC z y k) (runT z k) ∧ Below w1.heap.size w1 wr) (fun i _ => l0 - (intOf i).toNat)
  case atStart => exact ⟨0, by omega, rfl, S, hb⟩
  case round =>
    clear S hb
    obtain ⟨k, hk, rfl, S, hb⟩ := hrel
    by_cases hlt2 : k < l0
    · have hcz : wr.cell? ⟨b0, o0 + k, none⟩ = some (.int .i64 (z.getD k 0)) := (hb.cell (p := ⟨b0, o0 + k, none⟩) k0).trans (HZ.out k (by omega))
      have hcy : wr.cell? ⟨b1, o1 + k, none⟩ = some (.int .i64 (y.getD k 0)) := (hb.cell (p := ⟨b1, o1 + k, none⟩) k1).trans (HY.out k (by omega))
      obtain ⟨a, ha⟩ : ∃ a, z.getD k 0 = a := ⟨_, rfl⟩
      obtain ⟨l, hl⟩ : ∃ l, y.getD k 0 = l := ⟨_, rfl⟩
      have ra := getD_bd DZ.out k
      have rl := getD_bd DY.out k
      rw [ha] at hcz ra
      rw [hl] at hcy rl
      have e1 : runT z (k + 1) = stepT (runT z k) (z.getD k 0) := rfl
      have e2 : runC z y (k + 1) = stepC (runC z y k) (runT z k) (z.getD k 0) (y.getD k 0) := rfl
      rw [ha] at e1 e2
      rw [hl] at e2
      have E1 : Hid (runT z (k + 1) = stepT (runT z k) a) := e1
      have E2 : Hid (runC z y (k + 1) = stepC (runC z y k) (runT z k) a l) := e2
      clear e1 e2 ha hl
      have i1 : (0 : Int) ≤ (k : Int) := by omega
      have i2 : (k : Int) < (l0 : Int) := by omega
      have i3 : (k : Int) < (l1 : Int) := by omega
      obtain ⟨c, hc⟩ : ∃ c, runC z y k = c := ⟨_, rfl⟩
      obtain ⟨t, ht⟩ : ∃ t, runT z k = t := ⟨_, rfl⟩
      rw [hc, ht] at S E2
      rw [ht] at E1
      clear hc ht
      have SD : StN wr.drew w1.heap.size c t := St.kept S (Nat.le_refl _) rfl
      go_wp2_with fail
      go_region_with (go_at_call 7; refine (zset_ns w1.heap.size c t a l wr.drew SD ra.1 ra.2 rl.1 rl.2).mono ?_; rintro e w3 ⟨rfl, S3, G3⟩)
      all_goals
        have B3 := (hb.drew).grown G3 hb.size (by intro k e; injection e with e; omega)
        clear S SD hb hcz hcy G3 ra rl
        go_wp2
        go_roundw
        case rel => exact ⟨k + 1, by omega, by go_num, by rw [E1.out, E2.out]; exact S3, B3⟩
        case measure => simp [intOf]; omega
    · obtain rfl : l0 = k := by omega
      have HZ2 : ∀ j, j < l0 → wr.cell? ⟨b0, o0 + j, none⟩ = some (.int .i64 (z.getD j 0)) := fun j hj => (hb.cell (p := ⟨b0, o0 + j, none⟩) k0).trans (HZ.out j hj)
      have HY2 : ∀ j, j < l1 → wr.cell? ⟨b1, o1 + j, none⟩ = some (.int .i64 (y.getD j 0)) := fun j hj => (hb.cell (p := ⟨b1, o1 + j, none⟩) k1).trans (HY.out j hj)
      have HZ3 : Hid (∀ j, j < l0 → wr.cell? ⟨b0, o0 + j, none⟩ = some (.int .i64 (z.getD j 0))) := HZ2
      have HY3 : Hid (∀ j, j < l1 → wr.cell? ⟨b1, o1 + j, none⟩ = some (.int .i64 (y.getD j 0))) := HY2
      clear HZ2 HY2 HZ HY
      go_wp2_with fail
      go_loop [8, 9] (fun t i => ∃ m : Nat, m ≤ l0 ∧ i = .int .i64 m ∧ t = .int .i64 (runT z m)) (fun _ i => l0 - (intOf i).toNat)
      case atStart => exact ⟨0, by omega, rfl, rfl⟩
      case round =>
        obtain ⟨m, hm, rfl, rfl⟩ := hrel
        by_cases hlt3 : m < l0
        · have hcz := HZ3.out m (by omega)
          obtain ⟨a, ha⟩ : ∃ a, z.getD m 0 = a := ⟨_, rfl⟩
          rw [ha] at hcz
          have e1 : runT z (m + 1) = stepT (runT z m) (z.getD m 0) := rfl
          rw [ha] at e1
          have E1 : Hid (runT z (m + 1) = stepT (runT z m) a) := e1
          clear e1 ha
          obtain ⟨T, hT⟩ : ∃ T, runT z m = T := ⟨_, rfl⟩
          rw [hT] at E1 ⊢
          clear hT
          by_cases hTa : T < a
          all_goals
            go_wp2
            go_round
            case rel => exact ⟨m + 1, by omega, by go_num, by rw [E1.out]; unfold stepT; simp [hTa]⟩
            case measure => simp [intOf]; omega
        · obtain rfl : l0 = m := by omega
          have rc := runC_bd (z := z) (y := y) DY.out l0
          have rt := runT_bd (z := z) DZ.out l0
          obtain ⟨c, hc⟩ : ∃ c, runC z y l0 = c := ⟨_, rfl⟩
          obtain ⟨t, ht⟩ : ∃ t, runT z l0 = t := ⟨_, rfl⟩
          rw [hc] at S rc
          rw [ht] at S rt ⊢
          have HC : Hid (runC z y l0 = c) := hc
          clear hc ht
          go_wp2_with fail
          go_loop [10, 11] (fun v i => ∃ m : Nat, m ≤ l0 ∧ i = .int .i64 ((m : Int) - 1) ∧ v = .int .i64 0 ∧ Hid (∀ j, m ≤ j → j < l0 → app z j = false)) (fun _ i => (intOf i + 1).toNat)
          case atStart => exact ⟨l0, by omega, rfl, rfl, fun j h1 h2 => by omega⟩
          case round =>
            obtain ⟨m, hm3, rfl, rfl, HN⟩ := hrel
            by_cases hm0 : m = 0
            · subst hm0
              have hc0 : c = 0 := by rw [← HC.out]; exact runC_none z y 0 l0 (by omega) HN.out
              subst hc0
              go_wp2_with fail
              refine (zclosed_ns w1.heap.size 0 t wr S rc.1 rc.2).mono ?_
              rintro e w3 ⟨rfl, hb3⟩
              have S3 := S.below hb3 S.lt
              go_wp2_with fail
              refine (zturned_ns w1.heap.size 0 t w3 S3 rt.1 rt.2).mono ?_
              rintro e w4 ⟨rfl, hb4⟩
              go_wp2_with fail
              go_ret
              exact ⟨by simp, hb.trans ((hb3.mono (by have := S.lt; omega)).trans (hb4.mono (by have := S3.lt; omega)))⟩
            · obtain ⟨q, rfl⟩ : ∃ q, m = q + 1 := ⟨m - 1, by omega⟩
              rw [show ((q + 1 : Nat) : Int) - 1 = (q : Int) from by omega]
              go_wp2_with fail
              refine (applied_any b0 o0 l0 c0 q z wr (by omega) h0 HZ3.out).mono ?_
              rintro e w5 ⟨rfl, hw5⟩
              rw [hw5]
              clear hw5 w5
              cases happ : app z q with
              | true =>
                have e1 := runC_none z y (q + 1) l0 (by omega) HN.out
                rw [runC_hit z y q happ, HC.out] at e1
                have hcy := HY3.out q (by omega)
                rw [← e1] at hcy
                clear e1 happ
                have i1 : (q : Int) < (l1 : Int) := by omega
                go_wp2_with fail
                refine (zclosed_ns w1.heap.size c t wr S rc.1 rc.2).mono ?_
                rintro e w3 ⟨rfl, hb3⟩
                have S3 := S.below hb3 S.lt
                go_wp2_with fail
                refine (zturned_ns w1.heap.size c t w3 S3 rt.1 rt.2).mono ?_
                rintro e w4 ⟨rfl, hb4⟩
                go_wp2_with fail
                go_ret
                exact ⟨by simp, hb.trans ((hb3.mono (by have := S.lt; omega)).trans (hb4.mono (by have := S3.lt; omega)))⟩
              | false =>
                have HN2 : Hid (∀ j, q ≤ j → j < l0 → app z j = false) := by
                  intro j h1 h2
                  by_cases e : j = q
                  · rw [e]; exact happ
                  · exact HN.out j (by omega) h2
                clear happ
                go_wp2
                go_round
                case rel => exact ⟨q, by omega, by go_num, rfl, HN2⟩
                case measure => simp [intOf]
end Go.Proofs.Qxb6615104a
