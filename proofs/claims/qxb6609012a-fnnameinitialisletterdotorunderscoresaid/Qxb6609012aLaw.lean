import Derived.Test.Qxb6609012aBase
import Derived.Below
namespace Go.Proofs.Qxb6609012a
open Go.RowKit
set_option linter.unusedSimpArgs false
set_option linter.unusedVariables false

theorem letters4 (c : Int) (h0 : 0 ≤ c) (h1 : c ≤ 255) (w : World) (L : Bool) (hL : isL c = L) :
    Calls Try.prog 4 #[.string (strOfNums [c])] w fun e w' => e = .returned (.bool L) ∧ w' = w := by
  subst hL
  have C := letters_one c h0 h1 w
  obtain ⟨L, hL⟩ : ∃ L, isL c = L := ⟨_, rfl⟩
  rw [hL] at C ⊢
  obtain ⟨s, hs⟩ : ∃ s, strOfNums [c] = s := ⟨_, rfl⟩
  rw [hs] at C ⊢
  have HC := Hid.intro' C
  clear C
  go_enter Try.func4, Try.ntmps4
  go_wp2_with fail
  refine HC.out.mono ?_
  rintro e w1 ⟨rfl, rfl⟩
  go_wp2
  go_ret
  exact ⟨rfl, rfl⟩

theorem conv_one (w : World) (c : Int) : (convert 23 9 (.slice (some ⟨w.heap.size, 0, none⟩) 1 1)).run Try.prog (w.alloc (.cells #[.int .u8 c] 5)) = .ok (.string (strOfNums [c])) (w.alloc (.cells #[.int .u8 c] 5)) :=
  run_convert_bytes_arg (P := Try.prog) _ 23 5 Try.underlying23 Try.underlying5 w.heap.size 0 1 1 [c] rfl (fun i hi => by
    obtain rfl : i = 0 := by omega
    simp) 9 Try.underlying9

def cntN (k : Nat) : Nat := ((List.range k).filter fun (n : Nat) => isN (n : Int)).length
def cntD (k : Nat) : Nat := ((List.range k).filter fun (n : Nat) => isD (n : Int)).length
theorem cntN_all : cntN 256 = 54 := by decide +kernel
theorem cntD_all : cntD 256 = 10 := by decide +kernel
theorem cntN_le (k : Nat) : cntN k ≤ k := by unfold cntN; exact Nat.le_trans (List.length_filter_le _ _) (by simp)
theorem cntD_le (k : Nat) : cntD k ≤ k := by unfold cntD; exact Nat.le_trans (List.length_filter_le _ _) (by simp)
theorem cntN_succ (k : Nat) : cntN (k + 1) = cntN k + (if isN (k : Int) = true then 1 else 0) := by
  unfold cntN; rw [List.range_succ, List.filter_append, List.length_append]; congr 1
  by_cases h : isN (k : Int) = true
  · simp [h]
  · simp [h]
theorem cntD_succ (k : Nat) : cntD (k + 1) = cntD k + (if isD (k : Int) = true then 1 else 0) := by
  unfold cntD; rw [List.range_succ, List.filter_append, List.length_append]; congr 1
  by_cases h : isD (k : Int) = true
  · simp [h]
  · simp [h]

theorem kinds (c : Int) : (isL c = true ∧ isN c = true ∧ isD c = false) ∨ (isL c = false ∧ c = 46 ∧ isN c = true ∧ isD c = false) ∨ (isL c = false ∧ c ≠ 46 ∧ c = 95 ∧ isN c = true ∧ isD c = false) ∨ (isL c = false ∧ c ≠ 46 ∧ c ≠ 95 ∧ isN c = false) := by
  simp only [isL, isN, isD, decide_eq_true_eq, decide_eq_false_iff_not]
  omega

set_option maxRecDepth 20000 in
set_option maxHeartbeats 4000000 in
theorem law (c : Int) (h0 : 0 ≤ c) (h1 : c ≤ 255) (w : World) :
    Calls Try.prog 3 #[.int .u8 c] w fun e w' => e = .returned (.bool true) ∧ Below w.heap.size w w' := by
  have hcv := conv_one
  have hbA : Below w.heap.size w (w.alloc (.cells #[.int .u8 c] 5)) := (Below.refl _ _).alloc (Nat.le_refl _) _
  rcases kinds c with ⟨kL, kN, kD⟩ | ⟨kL, k46, kN, kD⟩ | ⟨kL, k46, k95, kN, kD⟩ | ⟨kL, k46, k95, kN⟩
  · have HL := Hid.intro' (fun W => letters4 c h0 h1 W true kL)
    have HI := Hid.intro' (fun W => initial c h0 h1 W)
    have HD := Hid.intro' (fun W => digit c h0 h1 W)
    rw [kN] at HI
    rw [kD] at HD
    clear kL kN
    go_enter Try.func3, Try.ntmps3
    go_wp2_with fail
    refine (HL.out _).mono ?_
    rintro e w1 ⟨rfl, rfl⟩
    go_wp2_with fail
    refine (HI.out _).mono ?_
    rintro e w2 ⟨rfl, rfl⟩
    go_wp2_with fail
    refine (HD.out _).mono ?_
    rintro e w2 ⟨rfl, rfl⟩
    go_wp2
    go_loopw [4, 5, 6] (fun n d i wr => ∃ k : Nat, k ≤ 256 ∧ i = .int .i64 k ∧ n = .int .i64 ((cntN k : Nat) : Int) ∧ d = .int .i64 ((cntD k : Nat) : Int) ∧ Below w.heap.size w wr) (fun _ _ i _ => 256 - (intOf i).toNat)
    case atStart => exact ⟨0, by omega, rfl, rfl, rfl, hbA⟩
    case round =>
      obtain ⟨k, hk, rfl, rfl, rfl, hb⟩ := hrel
      have hsz := hb.size
      by_cases hlt : k < 256
      · have n0 := cntN_le k
        have d0 := cntD_le k
        have n1 := cntN_succ k
        have d1 := cntD_succ k
        rcases kinds (k : Int) with ⟨kL', kN', kD'⟩ | ⟨kL', k46', kN', kD'⟩ | ⟨kL', k46', k95', kN', kD'⟩ | ⟨kL', k46', k95', kN'⟩
        · have n1' : cntN (k + 1) = cntN k + 1 := by rw [n1, kN']; rfl
          have d1' : cntD (k + 1) = cntD k + 0 := by rw [d1, kD']; rfl
          have HL' := Hid.intro' (fun W => letters4 (k : Int) (by omega) (by omega) W true kL')
          have HI' := Hid.intro' (fun W => initial (k : Int) (by omega) (by omega) W)
          have HD' := Hid.intro' (fun W => digit (k : Int) (by omega) (by omega) W)
          rw [kN'] at HI'
          rw [kD'] at HD'
          have HN1 := Hid.intro' n1'
          have HD1 := Hid.intro' d1'
          clear n1 d1 n1' d1' kL' kN' kD'
          obtain ⟨nn, hnn⟩ : ∃ n, cntN k = n := ⟨_, rfl⟩
          obtain ⟨dd, hdd⟩ : ∃ n, cntD k = n := ⟨_, rfl⟩
          rw [hnn] at n0 HN1 ⊢
          rw [hdd] at d0 HD1 ⊢
          clear hnn hdd
          go_wp2_with fail
          refine (HI'.out _).mono ?_
          rintro e w3 ⟨rfl, rfl⟩
          go_wp2_with fail
          refine (HL'.out _).mono ?_
          rintro e w3 ⟨rfl, rfl⟩
          go_wp2_with fail
          refine (HD'.out _).mono ?_
          rintro e w3 ⟨rfl, rfl⟩
          go_wp2_with fail
          refine (HD'.out _).mono ?_
          rintro e w3 ⟨rfl, rfl⟩
          go_wp2
          go_roundw
          case rel => exact ⟨k + 1, by omega, by go_num, by rw [HN1.out]; go_num, by rw [HD1.out]; go_num, hb.alloc hsz _⟩
          case measure => simp [intOf]; omega
        · have n1' : cntN (k + 1) = cntN k + 1 := by rw [n1, kN']; rfl
          have d1' : cntD (k + 1) = cntD k + 0 := by rw [d1, kD']; rfl
          have HL' := Hid.intro' (fun W => letters4 (k : Int) (by omega) (by omega) W false kL')
          have HI' := Hid.intro' (fun W => initial (k : Int) (by omega) (by omega) W)
          have HD' := Hid.intro' (fun W => digit (k : Int) (by omega) (by omega) W)
          rw [kN'] at HI'
          rw [kD'] at HD'
          have f46 : ((k : Int) == 46) = true := by rw [beq_iff_eq]; exact k46'
          clear k46'
          have HN1 := Hid.intro' n1'
          have HD1 := Hid.intro' d1'
          clear n1 d1 n1' d1' kL' kN' kD'
          obtain ⟨nn, hnn⟩ : ∃ n, cntN k = n := ⟨_, rfl⟩
          obtain ⟨dd, hdd⟩ : ∃ n, cntD k = n := ⟨_, rfl⟩
          rw [hnn] at n0 HN1 ⊢
          rw [hdd] at d0 HD1 ⊢
          clear hnn hdd
          go_wp2_with fail
          refine (HI'.out _).mono ?_
          rintro e w3 ⟨rfl, rfl⟩
          go_wp2_with fail
          refine (HL'.out _).mono ?_
          rintro e w3 ⟨rfl, rfl⟩
          go_wp2_with fail
          refine (HD'.out _).mono ?_
          rintro e w3 ⟨rfl, rfl⟩
          go_wp2_with fail
          refine (HD'.out _).mono ?_
          rintro e w3 ⟨rfl, rfl⟩
          go_wp2
          go_roundw
          case rel => exact ⟨k + 1, by omega, by go_num, by rw [HN1.out]; go_num, by rw [HD1.out]; go_num, hb.alloc hsz _⟩
          case measure => simp [intOf]; omega
        · have n1' : cntN (k + 1) = cntN k + 1 := by rw [n1, kN']; rfl
          have d1' : cntD (k + 1) = cntD k + 0 := by rw [d1, kD']; rfl
          have HL' := Hid.intro' (fun W => letters4 (k : Int) (by omega) (by omega) W false kL')
          have HI' := Hid.intro' (fun W => initial (k : Int) (by omega) (by omega) W)
          have HD' := Hid.intro' (fun W => digit (k : Int) (by omega) (by omega) W)
          rw [kN'] at HI'
          rw [kD'] at HD'
          have f46 : ((k : Int) == 46) = false := by rw [beq_eq_false_iff_ne]; exact k46'
          have f95 : ((k : Int) == 95) = true := by rw [beq_iff_eq]; exact k95'
          clear k46' k95'
          have HN1 := Hid.intro' n1'
          have HD1 := Hid.intro' d1'
          clear n1 d1 n1' d1' kL' kN' kD'
          obtain ⟨nn, hnn⟩ : ∃ n, cntN k = n := ⟨_, rfl⟩
          obtain ⟨dd, hdd⟩ : ∃ n, cntD k = n := ⟨_, rfl⟩
          rw [hnn] at n0 HN1 ⊢
          rw [hdd] at d0 HD1 ⊢
          clear hnn hdd
          go_wp2_with fail
          refine (HI'.out _).mono ?_
          rintro e w3 ⟨rfl, rfl⟩
          go_wp2_with fail
          refine (HL'.out _).mono ?_
          rintro e w3 ⟨rfl, rfl⟩
          go_wp2_with fail
          refine (HD'.out _).mono ?_
          rintro e w3 ⟨rfl, rfl⟩
          go_wp2_with fail
          refine (HD'.out _).mono ?_
          rintro e w3 ⟨rfl, rfl⟩
          go_wp2
          go_roundw
          case rel => exact ⟨k + 1, by omega, by go_num, by rw [HN1.out]; go_num, by rw [HD1.out]; go_num, hb.alloc hsz _⟩
          case measure => simp [intOf]; omega
        · cases kD' : isD (k : Int) with
          | true =>
            have n1' : cntN (k + 1) = cntN k + 0 := by rw [n1, kN']; rfl
            have d1' : cntD (k + 1) = cntD k + 1 := by rw [d1, kD']; rfl
            have HL' := Hid.intro' (fun W => letters4 (k : Int) (by omega) (by omega) W false kL')
            have HI' := Hid.intro' (fun W => initial (k : Int) (by omega) (by omega) W)
            have HD' := Hid.intro' (fun W => digit (k : Int) (by omega) (by omega) W)
            rw [kN'] at HI'
            rw [kD'] at HD'
            have f46 : ((k : Int) == 46) = false := by rw [beq_eq_false_iff_ne]; exact k46'
            have f95 : ((k : Int) == 95) = false := by rw [beq_eq_false_iff_ne]; exact k95'
            clear k46' k95'
            have HN1 := Hid.intro' n1'
            have HD1 := Hid.intro' d1'
            clear n1 d1 n1' d1' kL' kN' kD'
            obtain ⟨nn, hnn⟩ : ∃ n, cntN k = n := ⟨_, rfl⟩
            obtain ⟨dd, hdd⟩ : ∃ n, cntD k = n := ⟨_, rfl⟩
            rw [hnn] at n0 HN1 ⊢
            rw [hdd] at d0 HD1 ⊢
            clear hnn hdd
            go_wp2_with fail
            refine (HI'.out _).mono ?_
            rintro e w3 ⟨rfl, rfl⟩
            go_wp2_with fail
            refine (HL'.out _).mono ?_
            rintro e w3 ⟨rfl, rfl⟩
            go_wp2_with fail
            refine (HD'.out _).mono ?_
            rintro e w3 ⟨rfl, rfl⟩
            go_wp2
            go_roundw
            case rel => exact ⟨k + 1, by omega, by go_num, by rw [HN1.out]; go_num, by rw [HD1.out]; go_num, hb.alloc hsz _⟩
            case measure => simp [intOf]; omega
          | false =>
            have n1' : cntN (k + 1) = cntN k + 0 := by rw [n1, kN']; rfl
            have d1' : cntD (k + 1) = cntD k + 0 := by rw [d1, kD']; rfl
            have HL' := Hid.intro' (fun W => letters4 (k : Int) (by omega) (by omega) W false kL')
            have HI' := Hid.intro' (fun W => initial (k : Int) (by omega) (by omega) W)
            have HD' := Hid.intro' (fun W => digit (k : Int) (by omega) (by omega) W)
            rw [kN'] at HI'
            rw [kD'] at HD'
            have f46 : ((k : Int) == 46) = false := by rw [beq_eq_false_iff_ne]; exact k46'
            have f95 : ((k : Int) == 95) = false := by rw [beq_eq_false_iff_ne]; exact k95'
            clear k46' k95'
            have HN1 := Hid.intro' n1'
            have HD1 := Hid.intro' d1'
            clear n1 d1 n1' d1' kL' kN' kD'
            obtain ⟨nn, hnn⟩ : ∃ n, cntN k = n := ⟨_, rfl⟩
            obtain ⟨dd, hdd⟩ : ∃ n, cntD k = n := ⟨_, rfl⟩
            rw [hnn] at n0 HN1 ⊢
            rw [hdd] at d0 HD1 ⊢
            clear hnn hdd
            go_wp2_with fail
            refine (HI'.out _).mono ?_
            rintro e w3 ⟨rfl, rfl⟩
            go_wp2_with fail
            refine (HL'.out _).mono ?_
            rintro e w3 ⟨rfl, rfl⟩
            go_wp2_with fail
            refine (HD'.out _).mono ?_
            rintro e w3 ⟨rfl, rfl⟩
            go_wp2
            go_roundw
            case rel => exact ⟨k + 1, by omega, by go_num, by rw [HN1.out]; go_num, by rw [HD1.out]; go_num, hb.alloc hsz _⟩
            case measure => simp [intOf]; omega
      · obtain rfl : 256 = k := by omega
        rw [cntN_all, cntD_all]
        go_wp2
        go_ret
        exact ⟨rfl, hb⟩
  · have HL := Hid.intro' (fun W => letters4 c h0 h1 W false kL)
    have HI := Hid.intro' (fun W => initial c h0 h1 W)
    have HD := Hid.intro' (fun W => digit c h0 h1 W)
    rw [kN] at HI
    rw [kD] at HD
    have e46 : (c == 46) = true := by rw [beq_iff_eq]; exact k46
    clear k46
    clear kL kN
    go_enter Try.func3, Try.ntmps3
    go_wp2_with fail
    refine (HL.out _).mono ?_
    rintro e w1 ⟨rfl, rfl⟩
    go_wp2_with fail
    refine (HI.out _).mono ?_
    rintro e w2 ⟨rfl, rfl⟩
    go_wp2_with fail
    refine (HD.out _).mono ?_
    rintro e w2 ⟨rfl, rfl⟩
    go_wp2
    go_loopw [4, 5, 6] (fun n d i wr => ∃ k : Nat, k ≤ 256 ∧ i = .int .i64 k ∧ n = .int .i64 ((cntN k : Nat) : Int) ∧ d = .int .i64 ((cntD k : Nat) : Int) ∧ Below w.heap.size w wr) (fun _ _ i _ => 256 - (intOf i).toNat)
    case atStart => exact ⟨0, by omega, rfl, rfl, rfl, hbA⟩
    case round =>
      obtain ⟨k, hk, rfl, rfl, rfl, hb⟩ := hrel
      have hsz := hb.size
      by_cases hlt : k < 256
      · have n0 := cntN_le k
        have d0 := cntD_le k
        have n1 := cntN_succ k
        have d1 := cntD_succ k
        rcases kinds (k : Int) with ⟨kL', kN', kD'⟩ | ⟨kL', k46', kN', kD'⟩ | ⟨kL', k46', k95', kN', kD'⟩ | ⟨kL', k46', k95', kN'⟩
        · have n1' : cntN (k + 1) = cntN k + 1 := by rw [n1, kN']; rfl
          have d1' : cntD (k + 1) = cntD k + 0 := by rw [d1, kD']; rfl
          have HL' := Hid.intro' (fun W => letters4 (k : Int) (by omega) (by omega) W true kL')
          have HI' := Hid.intro' (fun W => initial (k : Int) (by omega) (by omega) W)
          have HD' := Hid.intro' (fun W => digit (k : Int) (by omega) (by omega) W)
          rw [kN'] at HI'
          rw [kD'] at HD'
          have HN1 := Hid.intro' n1'
          have HD1 := Hid.intro' d1'
          clear n1 d1 n1' d1' kL' kN' kD'
          obtain ⟨nn, hnn⟩ : ∃ n, cntN k = n := ⟨_, rfl⟩
          obtain ⟨dd, hdd⟩ : ∃ n, cntD k = n := ⟨_, rfl⟩
          rw [hnn] at n0 HN1 ⊢
          rw [hdd] at d0 HD1 ⊢
          clear hnn hdd
          go_wp2_with fail
          refine (HI'.out _).mono ?_
          rintro e w3 ⟨rfl, rfl⟩
          go_wp2_with fail
          refine (HL'.out _).mono ?_
          rintro e w3 ⟨rfl, rfl⟩
          go_wp2_with fail
          refine (HD'.out _).mono ?_
          rintro e w3 ⟨rfl, rfl⟩
          go_wp2_with fail
          refine (HD'.out _).mono ?_
          rintro e w3 ⟨rfl, rfl⟩
          go_wp2
          go_roundw
          case rel => exact ⟨k + 1, by omega, by go_num, by rw [HN1.out]; go_num, by rw [HD1.out]; go_num, hb.alloc hsz _⟩
          case measure => simp [intOf]; omega
        · have n1' : cntN (k + 1) = cntN k + 1 := by rw [n1, kN']; rfl
          have d1' : cntD (k + 1) = cntD k + 0 := by rw [d1, kD']; rfl
          have HL' := Hid.intro' (fun W => letters4 (k : Int) (by omega) (by omega) W false kL')
          have HI' := Hid.intro' (fun W => initial (k : Int) (by omega) (by omega) W)
          have HD' := Hid.intro' (fun W => digit (k : Int) (by omega) (by omega) W)
          rw [kN'] at HI'
          rw [kD'] at HD'
          have f46 : ((k : Int) == 46) = true := by rw [beq_iff_eq]; exact k46'
          clear k46'
          have HN1 := Hid.intro' n1'
          have HD1 := Hid.intro' d1'
          clear n1 d1 n1' d1' kL' kN' kD'
          obtain ⟨nn, hnn⟩ : ∃ n, cntN k = n := ⟨_, rfl⟩
          obtain ⟨dd, hdd⟩ : ∃ n, cntD k = n := ⟨_, rfl⟩
          rw [hnn] at n0 HN1 ⊢
          rw [hdd] at d0 HD1 ⊢
          clear hnn hdd
          go_wp2_with fail
          refine (HI'.out _).mono ?_
          rintro e w3 ⟨rfl, rfl⟩
          go_wp2_with fail
          refine (HL'.out _).mono ?_
          rintro e w3 ⟨rfl, rfl⟩
          go_wp2_with fail
          refine (HD'.out _).mono ?_
          rintro e w3 ⟨rfl, rfl⟩
          go_wp2_with fail
          refine (HD'.out _).mono ?_
          rintro e w3 ⟨rfl, rfl⟩
          go_wp2
          go_roundw
          case rel => exact ⟨k + 1, by omega, by go_num, by rw [HN1.out]; go_num, by rw [HD1.out]; go_num, hb.alloc hsz _⟩
          case measure => simp [intOf]; omega
        · have n1' : cntN (k + 1) = cntN k + 1 := by rw [n1, kN']; rfl
          have d1' : cntD (k + 1) = cntD k + 0 := by rw [d1, kD']; rfl
          have HL' := Hid.intro' (fun W => letters4 (k : Int) (by omega) (by omega) W false kL')
          have HI' := Hid.intro' (fun W => initial (k : Int) (by omega) (by omega) W)
          have HD' := Hid.intro' (fun W => digit (k : Int) (by omega) (by omega) W)
          rw [kN'] at HI'
          rw [kD'] at HD'
          have f46 : ((k : Int) == 46) = false := by rw [beq_eq_false_iff_ne]; exact k46'
          have f95 : ((k : Int) == 95) = true := by rw [beq_iff_eq]; exact k95'
          clear k46' k95'
          have HN1 := Hid.intro' n1'
          have HD1 := Hid.intro' d1'
          clear n1 d1 n1' d1' kL' kN' kD'
          obtain ⟨nn, hnn⟩ : ∃ n, cntN k = n := ⟨_, rfl⟩
          obtain ⟨dd, hdd⟩ : ∃ n, cntD k = n := ⟨_, rfl⟩
          rw [hnn] at n0 HN1 ⊢
          rw [hdd] at d0 HD1 ⊢
          clear hnn hdd
          go_wp2_with fail
          refine (HI'.out _).mono ?_
          rintro e w3 ⟨rfl, rfl⟩
          go_wp2_with fail
          refine (HL'.out _).mono ?_
          rintro e w3 ⟨rfl, rfl⟩
          go_wp2_with fail
          refine (HD'.out _).mono ?_
          rintro e w3 ⟨rfl, rfl⟩
          go_wp2_with fail
          refine (HD'.out _).mono ?_
          rintro e w3 ⟨rfl, rfl⟩
          go_wp2
          go_roundw
          case rel => exact ⟨k + 1, by omega, by go_num, by rw [HN1.out]; go_num, by rw [HD1.out]; go_num, hb.alloc hsz _⟩
          case measure => simp [intOf]; omega
        · cases kD' : isD (k : Int) with
          | true =>
            have n1' : cntN (k + 1) = cntN k + 0 := by rw [n1, kN']; rfl
            have d1' : cntD (k + 1) = cntD k + 1 := by rw [d1, kD']; rfl
            have HL' := Hid.intro' (fun W => letters4 (k : Int) (by omega) (by omega) W false kL')
            have HI' := Hid.intro' (fun W => initial (k : Int) (by omega) (by omega) W)
            have HD' := Hid.intro' (fun W => digit (k : Int) (by omega) (by omega) W)
            rw [kN'] at HI'
            rw [kD'] at HD'
            have f46 : ((k : Int) == 46) = false := by rw [beq_eq_false_iff_ne]; exact k46'
            have f95 : ((k : Int) == 95) = false := by rw [beq_eq_false_iff_ne]; exact k95'
            clear k46' k95'
            have HN1 := Hid.intro' n1'
            have HD1 := Hid.intro' d1'
            clear n1 d1 n1' d1' kL' kN' kD'
            obtain ⟨nn, hnn⟩ : ∃ n, cntN k = n := ⟨_, rfl⟩
            obtain ⟨dd, hdd⟩ : ∃ n, cntD k = n := ⟨_, rfl⟩
            rw [hnn] at n0 HN1 ⊢
            rw [hdd] at d0 HD1 ⊢
            clear hnn hdd
            go_wp2_with fail
            refine (HI'.out _).mono ?_
            rintro e w3 ⟨rfl, rfl⟩
            go_wp2_with fail
            refine (HL'.out _).mono ?_
            rintro e w3 ⟨rfl, rfl⟩
            go_wp2_with fail
            refine (HD'.out _).mono ?_
            rintro e w3 ⟨rfl, rfl⟩
            go_wp2
            go_roundw
            case rel => exact ⟨k + 1, by omega, by go_num, by rw [HN1.out]; go_num, by rw [HD1.out]; go_num, hb.alloc hsz _⟩
            case measure => simp [intOf]; omega
          | false =>
            have n1' : cntN (k + 1) = cntN k + 0 := by rw [n1, kN']; rfl
            have d1' : cntD (k + 1) = cntD k + 0 := by rw [d1, kD']; rfl
            have HL' := Hid.intro' (fun W => letters4 (k : Int) (by omega) (by omega) W false kL')
            have HI' := Hid.intro' (fun W => initial (k : Int) (by omega) (by omega) W)
            have HD' := Hid.intro' (fun W => digit (k : Int) (by omega) (by omega) W)
            rw [kN'] at HI'
            rw [kD'] at HD'
            have f46 : ((k : Int) == 46) = false := by rw [beq_eq_false_iff_ne]; exact k46'
            have f95 : ((k : Int) == 95) = false := by rw [beq_eq_false_iff_ne]; exact k95'
            clear k46' k95'
            have HN1 := Hid.intro' n1'
            have HD1 := Hid.intro' d1'
            clear n1 d1 n1' d1' kL' kN' kD'
            obtain ⟨nn, hnn⟩ : ∃ n, cntN k = n := ⟨_, rfl⟩
            obtain ⟨dd, hdd⟩ : ∃ n, cntD k = n := ⟨_, rfl⟩
            rw [hnn] at n0 HN1 ⊢
            rw [hdd] at d0 HD1 ⊢
            clear hnn hdd
            go_wp2_with fail
            refine (HI'.out _).mono ?_
            rintro e w3 ⟨rfl, rfl⟩
            go_wp2_with fail
            refine (HL'.out _).mono ?_
            rintro e w3 ⟨rfl, rfl⟩
            go_wp2_with fail
            refine (HD'.out _).mono ?_
            rintro e w3 ⟨rfl, rfl⟩
            go_wp2
            go_roundw
            case rel => exact ⟨k + 1, by omega, by go_num, by rw [HN1.out]; go_num, by rw [HD1.out]; go_num, hb.alloc hsz _⟩
            case measure => simp [intOf]; omega
      · obtain rfl : 256 = k := by omega
        rw [cntN_all, cntD_all]
        go_wp2
        go_ret
        exact ⟨rfl, hb⟩
  · have HL := Hid.intro' (fun W => letters4 c h0 h1 W false kL)
    have HI := Hid.intro' (fun W => initial c h0 h1 W)
    have HD := Hid.intro' (fun W => digit c h0 h1 W)
    rw [kN] at HI
    rw [kD] at HD
    have e46 : (c == 46) = false := by rw [beq_eq_false_iff_ne]; exact k46
    have e95 : (c == 95) = true := by rw [beq_iff_eq]; exact k95
    clear k46 k95
    clear kL kN
    go_enter Try.func3, Try.ntmps3
    go_wp2_with fail
    refine (HL.out _).mono ?_
    rintro e w1 ⟨rfl, rfl⟩
    go_wp2_with fail
    refine (HI.out _).mono ?_
    rintro e w2 ⟨rfl, rfl⟩
    go_wp2_with fail
    refine (HD.out _).mono ?_
    rintro e w2 ⟨rfl, rfl⟩
    go_wp2
    go_loopw [4, 5, 6] (fun n d i wr => ∃ k : Nat, k ≤ 256 ∧ i = .int .i64 k ∧ n = .int .i64 ((cntN k : Nat) : Int) ∧ d = .int .i64 ((cntD k : Nat) : Int) ∧ Below w.heap.size w wr) (fun _ _ i _ => 256 - (intOf i).toNat)
    case atStart => exact ⟨0, by omega, rfl, rfl, rfl, hbA⟩
    case round =>
      obtain ⟨k, hk, rfl, rfl, rfl, hb⟩ := hrel
      have hsz := hb.size
      by_cases hlt : k < 256
      · have n0 := cntN_le k
        have d0 := cntD_le k
        have n1 := cntN_succ k
        have d1 := cntD_succ k
        rcases kinds (k : Int) with ⟨kL', kN', kD'⟩ | ⟨kL', k46', kN', kD'⟩ | ⟨kL', k46', k95', kN', kD'⟩ | ⟨kL', k46', k95', kN'⟩
        · have n1' : cntN (k + 1) = cntN k + 1 := by rw [n1, kN']; rfl
          have d1' : cntD (k + 1) = cntD k + 0 := by rw [d1, kD']; rfl
          have HL' := Hid.intro' (fun W => letters4 (k : Int) (by omega) (by omega) W true kL')
          have HI' := Hid.intro' (fun W => initial (k : Int) (by omega) (by omega) W)
          have HD' := Hid.intro' (fun W => digit (k : Int) (by omega) (by omega) W)
          rw [kN'] at HI'
          rw [kD'] at HD'
          have HN1 := Hid.intro' n1'
          have HD1 := Hid.intro' d1'
          clear n1 d1 n1' d1' kL' kN' kD'
          obtain ⟨nn, hnn⟩ : ∃ n, cntN k = n := ⟨_, rfl⟩
          obtain ⟨dd, hdd⟩ : ∃ n, cntD k = n := ⟨_, rfl⟩
          rw [hnn] at n0 HN1 ⊢
          rw [hdd] at d0 HD1 ⊢
          clear hnn hdd
          go_wp2_with fail
          refine (HI'.out _).mono ?_
          rintro e w3 ⟨rfl, rfl⟩
          go_wp2_with fail
          refine (HL'.out _).mono ?_
          rintro e w3 ⟨rfl, rfl⟩
          go_wp2_with fail
          refine (HD'.out _).mono ?_
          rintro e w3 ⟨rfl, rfl⟩
          go_wp2_with fail
          refine (HD'.out _).mono ?_
          rintro e w3 ⟨rfl, rfl⟩
          go_wp2
          go_roundw
          case rel => exact ⟨k + 1, by omega, by go_num, by rw [HN1.out]; go_num, by rw [HD1.out]; go_num, hb.alloc hsz _⟩
          case measure => simp [intOf]; omega
        · have n1' : cntN (k + 1) = cntN k + 1 := by rw [n1, kN']; rfl
          have d1' : cntD (k + 1) = cntD k + 0 := by rw [d1, kD']; rfl
          have HL' := Hid.intro' (fun W => letters4 (k : Int) (by omega) (by omega) W false kL')
          have HI' := Hid.intro' (fun W => initial (k : Int) (by omega) (by omega) W)
          have HD' := Hid.intro' (fun W => digit (k : Int) (by omega) (by omega) W)
          rw [kN'] at HI'
          rw [kD'] at HD'
          have f46 : ((k : Int) == 46) = true := by rw [beq_iff_eq]; exact k46'
          clear k46'
          have HN1 := Hid.intro' n1'
          have HD1 := Hid.intro' d1'
          clear n1 d1 n1' d1' kL' kN' kD'
          obtain ⟨nn, hnn⟩ : ∃ n, cntN k = n := ⟨_, rfl⟩
          obtain ⟨dd, hdd⟩ : ∃ n, cntD k = n := ⟨_, rfl⟩
          rw [hnn] at n0 HN1 ⊢
          rw [hdd] at d0 HD1 ⊢
          clear hnn hdd
          go_wp2_with fail
          refine (HI'.out _).mono ?_
          rintro e w3 ⟨rfl, rfl⟩
          go_wp2_with fail
          refine (HL'.out _).mono ?_
          rintro e w3 ⟨rfl, rfl⟩
          go_wp2_with fail
          refine (HD'.out _).mono ?_
          rintro e w3 ⟨rfl, rfl⟩
          go_wp2_with fail
          refine (HD'.out _).mono ?_
          rintro e w3 ⟨rfl, rfl⟩
          go_wp2
          go_roundw
          case rel => exact ⟨k + 1, by omega, by go_num, by rw [HN1.out]; go_num, by rw [HD1.out]; go_num, hb.alloc hsz _⟩
          case measure => simp [intOf]; omega
        · have n1' : cntN (k + 1) = cntN k + 1 := by rw [n1, kN']; rfl
          have d1' : cntD (k + 1) = cntD k + 0 := by rw [d1, kD']; rfl
          have HL' := Hid.intro' (fun W => letters4 (k : Int) (by omega) (by omega) W false kL')
          have HI' := Hid.intro' (fun W => initial (k : Int) (by omega) (by omega) W)
          have HD' := Hid.intro' (fun W => digit (k : Int) (by omega) (by omega) W)
          rw [kN'] at HI'
          rw [kD'] at HD'
          have f46 : ((k : Int) == 46) = false := by rw [beq_eq_false_iff_ne]; exact k46'
          have f95 : ((k : Int) == 95) = true := by rw [beq_iff_eq]; exact k95'
          clear k46' k95'
          have HN1 := Hid.intro' n1'
          have HD1 := Hid.intro' d1'
          clear n1 d1 n1' d1' kL' kN' kD'
          obtain ⟨nn, hnn⟩ : ∃ n, cntN k = n := ⟨_, rfl⟩
          obtain ⟨dd, hdd⟩ : ∃ n, cntD k = n := ⟨_, rfl⟩
          rw [hnn] at n0 HN1 ⊢
          rw [hdd] at d0 HD1 ⊢
          clear hnn hdd
          go_wp2_with fail
          refine (HI'.out _).mono ?_
          rintro e w3 ⟨rfl, rfl⟩
          go_wp2_with fail
          refine (HL'.out _).mono ?_
          rintro e w3 ⟨rfl, rfl⟩
          go_wp2_with fail
          refine (HD'.out _).mono ?_
          rintro e w3 ⟨rfl, rfl⟩
          go_wp2_with fail
          refine (HD'.out _).mono ?_
          rintro e w3 ⟨rfl, rfl⟩
          go_wp2
          go_roundw
          case rel => exact ⟨k + 1, by omega, by go_num, by rw [HN1.out]; go_num, by rw [HD1.out]; go_num, hb.alloc hsz _⟩
          case measure => simp [intOf]; omega
        · cases kD' : isD (k : Int) with
          | true =>
            have n1' : cntN (k + 1) = cntN k + 0 := by rw [n1, kN']; rfl
            have d1' : cntD (k + 1) = cntD k + 1 := by rw [d1, kD']; rfl
            have HL' := Hid.intro' (fun W => letters4 (k : Int) (by omega) (by omega) W false kL')
            have HI' := Hid.intro' (fun W => initial (k : Int) (by omega) (by omega) W)
            have HD' := Hid.intro' (fun W => digit (k : Int) (by omega) (by omega) W)
            rw [kN'] at HI'
            rw [kD'] at HD'
            have f46 : ((k : Int) == 46) = false := by rw [beq_eq_false_iff_ne]; exact k46'
            have f95 : ((k : Int) == 95) = false := by rw [beq_eq_false_iff_ne]; exact k95'
            clear k46' k95'
            have HN1 := Hid.intro' n1'
            have HD1 := Hid.intro' d1'
            clear n1 d1 n1' d1' kL' kN' kD'
            obtain ⟨nn, hnn⟩ : ∃ n, cntN k = n := ⟨_, rfl⟩
            obtain ⟨dd, hdd⟩ : ∃ n, cntD k = n := ⟨_, rfl⟩
            rw [hnn] at n0 HN1 ⊢
            rw [hdd] at d0 HD1 ⊢
            clear hnn hdd
            go_wp2_with fail
            refine (HI'.out _).mono ?_
            rintro e w3 ⟨rfl, rfl⟩
            go_wp2_with fail
            refine (HL'.out _).mono ?_
            rintro e w3 ⟨rfl, rfl⟩
            go_wp2_with fail
            refine (HD'.out _).mono ?_
            rintro e w3 ⟨rfl, rfl⟩
            go_wp2
            go_roundw
            case rel => exact ⟨k + 1, by omega, by go_num, by rw [HN1.out]; go_num, by rw [HD1.out]; go_num, hb.alloc hsz _⟩
            case measure => simp [intOf]; omega
          | false =>
            have n1' : cntN (k + 1) = cntN k + 0 := by rw [n1, kN']; rfl
            have d1' : cntD (k + 1) = cntD k + 0 := by rw [d1, kD']; rfl
            have HL' := Hid.intro' (fun W => letters4 (k : Int) (by omega) (by omega) W false kL')
            have HI' := Hid.intro' (fun W => initial (k : Int) (by omega) (by omega) W)
            have HD' := Hid.intro' (fun W => digit (k : Int) (by omega) (by omega) W)
            rw [kN'] at HI'
            rw [kD'] at HD'
            have f46 : ((k : Int) == 46) = false := by rw [beq_eq_false_iff_ne]; exact k46'
            have f95 : ((k : Int) == 95) = false := by rw [beq_eq_false_iff_ne]; exact k95'
            clear k46' k95'
            have HN1 := Hid.intro' n1'
            have HD1 := Hid.intro' d1'
            clear n1 d1 n1' d1' kL' kN' kD'
            obtain ⟨nn, hnn⟩ : ∃ n, cntN k = n := ⟨_, rfl⟩
            obtain ⟨dd, hdd⟩ : ∃ n, cntD k = n := ⟨_, rfl⟩
            rw [hnn] at n0 HN1 ⊢
            rw [hdd] at d0 HD1 ⊢
            clear hnn hdd
            go_wp2_with fail
            refine (HI'.out _).mono ?_
            rintro e w3 ⟨rfl, rfl⟩
            go_wp2_with fail
            refine (HL'.out _).mono ?_
            rintro e w3 ⟨rfl, rfl⟩
            go_wp2_with fail
            refine (HD'.out _).mono ?_
            rintro e w3 ⟨rfl, rfl⟩
            go_wp2
            go_roundw
            case rel => exact ⟨k + 1, by omega, by go_num, by rw [HN1.out]; go_num, by rw [HD1.out]; go_num, hb.alloc hsz _⟩
            case measure => simp [intOf]; omega
      · obtain rfl : 256 = k := by omega
        rw [cntN_all, cntD_all]
        go_wp2
        go_ret
        exact ⟨rfl, hb⟩
  · have HL := Hid.intro' (fun W => letters4 c h0 h1 W false kL)
    have HI := Hid.intro' (fun W => initial c h0 h1 W)
    rw [kN] at HI
    have e46 : (c == 46) = false := by rw [beq_eq_false_iff_ne]; exact k46
    have e95 : (c == 95) = false := by rw [beq_eq_false_iff_ne]; exact k95
    clear k46 k95
    clear kL kN
    go_enter Try.func3, Try.ntmps3
    go_wp2_with fail
    refine (HL.out _).mono ?_
    rintro e w1 ⟨rfl, rfl⟩
    go_wp2_with fail
    refine (HI.out _).mono ?_
    rintro e w2 ⟨rfl, rfl⟩
    go_wp2
    go_loopw [4, 5, 6] (fun n d i wr => ∃ k : Nat, k ≤ 256 ∧ i = .int .i64 k ∧ n = .int .i64 ((cntN k : Nat) : Int) ∧ d = .int .i64 ((cntD k : Nat) : Int) ∧ Below w.heap.size w wr) (fun _ _ i _ => 256 - (intOf i).toNat)
    case atStart => exact ⟨0, by omega, rfl, rfl, rfl, hbA⟩
    case round =>
      obtain ⟨k, hk, rfl, rfl, rfl, hb⟩ := hrel
      have hsz := hb.size
      by_cases hlt : k < 256
      · have n0 := cntN_le k
        have d0 := cntD_le k
        have n1 := cntN_succ k
        have d1 := cntD_succ k
        rcases kinds (k : Int) with ⟨kL', kN', kD'⟩ | ⟨kL', k46', kN', kD'⟩ | ⟨kL', k46', k95', kN', kD'⟩ | ⟨kL', k46', k95', kN'⟩
        · have n1' : cntN (k + 1) = cntN k + 1 := by rw [n1, kN']; rfl
          have d1' : cntD (k + 1) = cntD k + 0 := by rw [d1, kD']; rfl
          have HL' := Hid.intro' (fun W => letters4 (k : Int) (by omega) (by omega) W true kL')
          have HI' := Hid.intro' (fun W => initial (k : Int) (by omega) (by omega) W)
          have HD' := Hid.intro' (fun W => digit (k : Int) (by omega) (by omega) W)
          rw [kN'] at HI'
          rw [kD'] at HD'
          have HN1 := Hid.intro' n1'
          have HD1 := Hid.intro' d1'
          clear n1 d1 n1' d1' kL' kN' kD'
          obtain ⟨nn, hnn⟩ : ∃ n, cntN k = n := ⟨_, rfl⟩
          obtain ⟨dd, hdd⟩ : ∃ n, cntD k = n := ⟨_, rfl⟩
          rw [hnn] at n0 HN1 ⊢
          rw [hdd] at d0 HD1 ⊢
          clear hnn hdd
          go_wp2_with fail
          refine (HI'.out _).mono ?_
          rintro e w3 ⟨rfl, rfl⟩
          go_wp2_with fail
          refine (HL'.out _).mono ?_
          rintro e w3 ⟨rfl, rfl⟩
          go_wp2_with fail
          refine (HD'.out _).mono ?_
          rintro e w3 ⟨rfl, rfl⟩
          go_wp2_with fail
          refine (HD'.out _).mono ?_
          rintro e w3 ⟨rfl, rfl⟩
          go_wp2
          go_roundw
          case rel => exact ⟨k + 1, by omega, by go_num, by rw [HN1.out]; go_num, by rw [HD1.out]; go_num, hb.alloc hsz _⟩
          case measure => simp [intOf]; omega
        · have n1' : cntN (k + 1) = cntN k + 1 := by rw [n1, kN']; rfl
          have d1' : cntD (k + 1) = cntD k + 0 := by rw [d1, kD']; rfl
          have HL' := Hid.intro' (fun W => letters4 (k : Int) (by omega) (by omega) W false kL')
          have HI' := Hid.intro' (fun W => initial (k : Int) (by omega) (by omega) W)
          have HD' := Hid.intro' (fun W => digit (k : Int) (by omega) (by omega) W)
          rw [kN'] at HI'
          rw [kD'] at HD'
          have f46 : ((k : Int) == 46) = true := by rw [beq_iff_eq]; exact k46'
          clear k46'
          have HN1 := Hid.intro' n1'
          have HD1 := Hid.intro' d1'
          clear n1 d1 n1' d1' kL' kN' kD'
          obtain ⟨nn, hnn⟩ : ∃ n, cntN k = n := ⟨_, rfl⟩
          obtain ⟨dd, hdd⟩ : ∃ n, cntD k = n := ⟨_, rfl⟩
          rw [hnn] at n0 HN1 ⊢
          rw [hdd] at d0 HD1 ⊢
          clear hnn hdd
          go_wp2_with fail
          refine (HI'.out _).mono ?_
          rintro e w3 ⟨rfl, rfl⟩
          go_wp2_with fail
          refine (HL'.out _).mono ?_
          rintro e w3 ⟨rfl, rfl⟩
          go_wp2_with fail
          refine (HD'.out _).mono ?_
          rintro e w3 ⟨rfl, rfl⟩
          go_wp2_with fail
          refine (HD'.out _).mono ?_
          rintro e w3 ⟨rfl, rfl⟩
          go_wp2
          go_roundw
          case rel => exact ⟨k + 1, by omega, by go_num, by rw [HN1.out]; go_num, by rw [HD1.out]; go_num, hb.alloc hsz _⟩
          case measure => simp [intOf]; omega
        · have n1' : cntN (k + 1) = cntN k + 1 := by rw [n1, kN']; rfl
          have d1' : cntD (k + 1) = cntD k + 0 := by rw [d1, kD']; rfl
          have HL' := Hid.intro' (fun W => letters4 (k : Int) (by omega) (by omega) W false kL')
          have HI' := Hid.intro' (fun W => initial (k : Int) (by omega) (by omega) W)
          have HD' := Hid.intro' (fun W => digit (k : Int) (by omega) (by omega) W)
          rw [kN'] at HI'
          rw [kD'] at HD'
          have f46 : ((k : Int) == 46) = false := by rw [beq_eq_false_iff_ne]; exact k46'
          have f95 : ((k : Int) == 95) = true := by rw [beq_iff_eq]; exact k95'
          clear k46' k95'
          have HN1 := Hid.intro' n1'
          have HD1 := Hid.intro' d1'
          clear n1 d1 n1' d1' kL' kN' kD'
          obtain ⟨nn, hnn⟩ : ∃ n, cntN k = n := ⟨_, rfl⟩
          obtain ⟨dd, hdd⟩ : ∃ n, cntD k = n := ⟨_, rfl⟩
          rw [hnn] at n0 HN1 ⊢
          rw [hdd] at d0 HD1 ⊢
          clear hnn hdd
          go_wp2_with fail
          refine (HI'.out _).mono ?_
          rintro e w3 ⟨rfl, rfl⟩
          go_wp2_with fail
          refine (HL'.out _).mono ?_
          rintro e w3 ⟨rfl, rfl⟩
          go_wp2_with fail
          refine (HD'.out _).mono ?_
          rintro e w3 ⟨rfl, rfl⟩
          go_wp2_with fail
          refine (HD'.out _).mono ?_
          rintro e w3 ⟨rfl, rfl⟩
          go_wp2
          go_roundw
          case rel => exact ⟨k + 1, by omega, by go_num, by rw [HN1.out]; go_num, by rw [HD1.out]; go_num, hb.alloc hsz _⟩
          case measure => simp [intOf]; omega
        · cases kD' : isD (k : Int) with
          | true =>
            have n1' : cntN (k + 1) = cntN k + 0 := by rw [n1, kN']; rfl
            have d1' : cntD (k + 1) = cntD k + 1 := by rw [d1, kD']; rfl
            have HL' := Hid.intro' (fun W => letters4 (k : Int) (by omega) (by omega) W false kL')
            have HI' := Hid.intro' (fun W => initial (k : Int) (by omega) (by omega) W)
            have HD' := Hid.intro' (fun W => digit (k : Int) (by omega) (by omega) W)
            rw [kN'] at HI'
            rw [kD'] at HD'
            have f46 : ((k : Int) == 46) = false := by rw [beq_eq_false_iff_ne]; exact k46'
            have f95 : ((k : Int) == 95) = false := by rw [beq_eq_false_iff_ne]; exact k95'
            clear k46' k95'
            have HN1 := Hid.intro' n1'
            have HD1 := Hid.intro' d1'
            clear n1 d1 n1' d1' kL' kN' kD'
            obtain ⟨nn, hnn⟩ : ∃ n, cntN k = n := ⟨_, rfl⟩
            obtain ⟨dd, hdd⟩ : ∃ n, cntD k = n := ⟨_, rfl⟩
            rw [hnn] at n0 HN1 ⊢
            rw [hdd] at d0 HD1 ⊢
            clear hnn hdd
            go_wp2_with fail
            refine (HI'.out _).mono ?_
            rintro e w3 ⟨rfl, rfl⟩
            go_wp2_with fail
            refine (HL'.out _).mono ?_
            rintro e w3 ⟨rfl, rfl⟩
            go_wp2_with fail
            refine (HD'.out _).mono ?_
            rintro e w3 ⟨rfl, rfl⟩
            go_wp2
            go_roundw
            case rel => exact ⟨k + 1, by omega, by go_num, by rw [HN1.out]; go_num, by rw [HD1.out]; go_num, hb.alloc hsz _⟩
            case measure => simp [intOf]; omega
          | false =>
            have n1' : cntN (k + 1) = cntN k + 0 := by rw [n1, kN']; rfl
            have d1' : cntD (k + 1) = cntD k + 0 := by rw [d1, kD']; rfl
            have HL' := Hid.intro' (fun W => letters4 (k : Int) (by omega) (by omega) W false kL')
            have HI' := Hid.intro' (fun W => initial (k : Int) (by omega) (by omega) W)
            have HD' := Hid.intro' (fun W => digit (k : Int) (by omega) (by omega) W)
            rw [kN'] at HI'
            rw [kD'] at HD'
            have f46 : ((k : Int) == 46) = false := by rw [beq_eq_false_iff_ne]; exact k46'
            have f95 : ((k : Int) == 95) = false := by rw [beq_eq_false_iff_ne]; exact k95'
            clear k46' k95'
            have HN1 := Hid.intro' n1'
            have HD1 := Hid.intro' d1'
            clear n1 d1 n1' d1' kL' kN' kD'
            obtain ⟨nn, hnn⟩ : ∃ n, cntN k = n := ⟨_, rfl⟩
            obtain ⟨dd, hdd⟩ : ∃ n, cntD k = n := ⟨_, rfl⟩
            rw [hnn] at n0 HN1 ⊢
            rw [hdd] at d0 HD1 ⊢
            clear hnn hdd
            go_wp2_with fail
            refine (HI'.out _).mono ?_
            rintro e w3 ⟨rfl, rfl⟩
            go_wp2_with fail
            refine (HL'.out _).mono ?_
            rintro e w3 ⟨rfl, rfl⟩
            go_wp2_with fail
            refine (HD'.out _).mono ?_
            rintro e w3 ⟨rfl, rfl⟩
            go_wp2
            go_roundw
            case rel => exact ⟨k + 1, by omega, by go_num, by rw [HN1.out]; go_num, by rw [HD1.out]; go_num, hb.alloc hsz _⟩
            case measure => simp [intOf]; omega
      · obtain rfl : 256 = k := by omega
        rw [cntN_all, cntD_all]
        go_wp2
        go_ret
        exact ⟨rfl, hb⟩
end Go.Proofs.Qxb6609012a
