import Derived.Test.Qxb6609012aRows
import Derived.WalkKit
import Derived.Laws.BytesArg
import Derived.KernelRfl
import Derived.WalkSpells
namespace Go.Proofs.Qxb6609012a
open Go.RowKit
set_option linter.unusedSimpArgs false
set_option linter.unusedVariables false

theorem Hid.intro' {p : Prop} (h : p) : Hid p := h
def isL (c : Int) : Bool := decide (65 ≤ c ∧ c ≤ 90 ∨ 97 ≤ c ∧ c ≤ 122)
def isN (c : Int) : Bool := decide (65 ≤ c ∧ c ≤ 90 ∨ 97 ≤ c ∧ c ≤ 122 ∨ c = 46 ∨ c = 95)
def isD (c : Int) : Bool := decide (48 ≤ c ∧ c ≤ 57)

theorem or32 : ∀ n : Fin 256, isL (n.val : Int) = decide (97 ≤ bits .or .u8 (n.val : Int) 32 ∧ bits .or .u8 (n.val : Int) 32 ≤ 122) := by decide +kernel

theorem one_byte (c : Int) (h0 : 0 ≤ c) (h1 : c ≤ 255) (s : ByteArray) (hs : strOfNums [c] = s) (h : 0 < s.size) : (s[0].toNat : Int) = c := by
  subst hs
  have : (strOfNums [c])[0] = UInt8.ofNat c.toNat := rfl
  rw [this, UInt8.toNat_ofNat']
  omega

theorem toList_one (s : ByteArray) (h : s.size = 1) : s.toList.isEmpty = false := by
  have : s.toList = [s.get! 0] := by
    rw [ByteArray.toList, ByteArray.toList.loop, if_pos (by omega), ByteArray.toList.loop, if_neg (by omega)]
    rfl
  rw [this]
  rfl

set_option maxHeartbeats 400000 in
theorem letters_one (c : Int) (h0 : 0 ≤ c) (h1 : c ≤ 255) (w : World) :
    Calls Try.prog 7 #[.string (strOfNums [c])] w fun e w' => e = .returned (.bool (isL c)) ∧ w' = w := by
  have hsz : (strOfNums [c]).size = 1 := strOfNums_size _
  obtain ⟨s, hs⟩ : ∃ s, strOfNums [c] = s := ⟨_, rfl⟩
  rw [hs] at hsz ⊢
  have hb := one_byte c h0 h1 s hs (by omega)
  have HL := or32 ⟨c.toNat, by omega⟩
  have hcn : ((c.toNat : Nat) : Int) = c := by omega
  simp only [hcn] at HL
  obtain ⟨z, hz⟩ : ∃ z, bits .or .u8 c 32 = z := ⟨_, rfl⟩
  rw [hz] at HL
  obtain ⟨L, hL⟩ : ∃ L, isL c = L := ⟨_, rfl⟩
  rw [hL] at HL ⊢
  have HLL := Hid.intro' HL
  have he := toList_one s hsz
  clear hs HL hcn
  go_enter Try.func7, Try.ntmps7
  go_wp2
  go_loop [3] (fun i => ∃ k : Nat, k ≤ 1 ∧ i = .int .i64 k ∧ (k = 1 → L = true)) (fun i => 1 - (intOf i).toNat)
  case atStart => exact ⟨0, by omega, rfl, by omega⟩
  case round =>
    obtain ⟨k, hk, rfl, hkL⟩ := hrel
    by_cases hlt : k < 1
    · obtain rfl : k = 0 := by omega
      by_cases z1 : z < 97
      · obtain rfl : L = false := by rw [HLL.out, decide_eq_false_iff_not]; omega
        go_wp2
        go_ret
        exact ⟨rfl, rfl⟩
      · by_cases z2 : 122 < z
        · obtain rfl : L = false := by rw [HLL.out, decide_eq_false_iff_not]; omega
          go_wp2
          go_ret
          exact ⟨rfl, rfl⟩
        · have hLt : L = true := by rw [HLL.out, decide_eq_true_eq]; omega
          go_wp2
          go_round
          case rel => exact ⟨1, by omega, rfl, fun _ => hLt⟩
          case measure => simp [intOf]
    · obtain rfl : k = 1 := by omega
      have hLt := hkL rfl
      subst hLt
      go_wp2
      go_ret
      exact ⟨rfl, rfl⟩

set_option maxHeartbeats 400000 in
theorem initial (c : Int) (h0 : 0 ≤ c) (h1 : c ≤ 255) (w : World) :
    Calls Try.prog 5 #[.int .u8 c] w fun e w' => e = .returned (.bool (isN c)) ∧ w' = w := by
  by_cases a : 65 ≤ c
  · by_cases b : c ≤ 90
    · have r : isN c = true := by unfold isN; rw [decide_eq_true_eq]; omega
      rw [r]
      go_enter Try.func5, Try.ntmps5
      go_wp2
      go_ret
      exact ⟨rfl, rfl⟩
    · by_cases d : 97 ≤ c
      · by_cases e : c ≤ 122
        · have r : isN c = true := by unfold isN; rw [decide_eq_true_eq]; omega
          rw [r]
          go_enter Try.func5, Try.ntmps5
          go_wp2
          go_ret
          exact ⟨rfl, rfl⟩
        · have r : isN c = false := by unfold isN; rw [decide_eq_false_iff_not]; omega
          have e1 : (c == 46) = false := by rw [beq_eq_false_iff_ne]; omega
          have e2 : (c == 95) = false := by rw [beq_eq_false_iff_ne]; omega
          rw [r]
          go_enter Try.func5, Try.ntmps5
          go_wp2
          go_ret
          exact ⟨rfl, rfl⟩
      · by_cases e : c = 95
        · have r : isN c = true := by unfold isN; rw [decide_eq_true_eq]; omega
          rw [r]
          subst e
          go_enter Try.func5, Try.ntmps5
          go_wp2
          go_ret
          exact ⟨rfl, rfl⟩
        · have r : isN c = false := by unfold isN; rw [decide_eq_false_iff_not]; omega
          have e1 : (c == 46) = false := by rw [beq_eq_false_iff_ne]; omega
          have e2 : (c == 95) = false := by rw [beq_eq_false_iff_ne]; omega
          rw [r]
          go_enter Try.func5, Try.ntmps5
          go_wp2
          go_ret
          exact ⟨rfl, rfl⟩
  · by_cases e : c = 46
    · have r : isN c = true := by unfold isN; rw [decide_eq_true_eq]; omega
      rw [r]
      subst e
      go_enter Try.func5, Try.ntmps5
      go_wp2
      go_ret
      exact ⟨rfl, rfl⟩
    · have r : isN c = false := by unfold isN; rw [decide_eq_false_iff_not]; omega
      have e1 : (c == 46) = false := by rw [beq_eq_false_iff_ne]; omega
      have e2 : (c == 95) = false := by rw [beq_eq_false_iff_ne]; omega
      rw [r]
      go_enter Try.func5, Try.ntmps5
      go_wp2
      go_ret
      exact ⟨rfl, rfl⟩

set_option maxHeartbeats 400000 in
theorem digit (c : Int) (h0 : 0 ≤ c) (h1 : c ≤ 255) (w : World) :
    Calls Try.prog 6 #[.int .u8 c] w fun e w' => e = .returned (.bool (isD c)) ∧ w' = w := by
  by_cases a : 48 ≤ c
  · by_cases b : c ≤ 57
    · have r : isD c = true := by unfold isD; rw [decide_eq_true_eq]; omega
      rw [r]
      go_enter Try.func6, Try.ntmps6
      go_wp2
      go_ret
      exact ⟨rfl, rfl⟩
    · have r : isD c = false := by unfold isD; rw [decide_eq_false_iff_not]; omega
      rw [r]
      go_enter Try.func6, Try.ntmps6
      go_wp2
      go_ret
      exact ⟨rfl, rfl⟩
  · have r : isD c = false := by unfold isD; rw [decide_eq_false_iff_not]; omega
    rw [r]
    go_enter Try.func6, Try.ntmps6
    go_wp2
    go_ret
    exact ⟨rfl, rfl⟩
end Go.Proofs.Qxb6609012a
