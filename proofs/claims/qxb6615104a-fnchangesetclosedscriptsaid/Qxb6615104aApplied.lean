import Derived.Test.Qxb6615104aChange
namespace Go.Proofs.Qxb6615104a
open Go.RowKit
set_option linter.unusedSimpArgs false
set_option linter.unusedVariables false

/-! ### The plain law -/
def runT (z : List Int) : Nat → Int
  | 0 => 0
  | k + 1 => stepT (runT z k) (z.getD k 0)
def runC (z y : List Int) : Nat → Int
  | 0 => 0
  | k + 1 => stepC (runC z y k) (runT z k) (z.getD k 0) (y.getD k 0)
def app (z : List Int) (k : Nat) : Bool := decide (z.getD k 0 = 0 ∨ (0 ≤ z.getD k 0 ∧ ∀ j, j < k → z.getD j 0 ≤ z.getD k 0))

theorem runT_nonneg (z : List Int) (k : Nat) : 0 ≤ runT z k := by
  induction k with
  | zero => exact Int.le_refl 0
  | succ k ih => unfold runT stepT; split <;> omega

theorem runT_ge (z : List Int) (k : Nat) : ∀ j, j < k → z.getD j 0 ≤ runT z k := by
  induction k with
  | zero => intro j hj; omega
  | succ k ih =>
    intro j hj
    have e : runT z (k + 1) = stepT (runT z k) (z.getD k 0) := rfl
    rw [e]; unfold stepT
    by_cases h : j = k
    · subst h; split <;> omega
    · have := ih j (by omega); split <;> omega

theorem runT_le (z : List Int) (a : Int) (h0 : 0 ≤ a) (k : Nat) (h : ∀ j, j < k → z.getD j 0 ≤ a) : runT z k ≤ a := by
  induction k with
  | zero => exact h0
  | succ k ih =>
    have e : runT z (k + 1) = stepT (runT z k) (z.getD k 0) := rfl
    rw [e]; unfold stepT
    have h1 := ih (fun j hj => h j (by omega))
    have h2 := h k (by omega)
    split <;> omega

theorem app_iff (z : List Int) (k : Nat) : app z k = true ↔ ¬ (z.getD k 0 ≠ 0 ∧ z.getD k 0 < runT z k) := by
  unfold app
  rw [decide_eq_true_iff]
  have n0 := runT_nonneg z k
  constructor
  · rintro (h | ⟨h0, h⟩)
    · omega
    · have := runT_le z _ h0 k h; omega
  · intro h
    by_cases hz : z.getD k 0 = 0
    · exact .inl hz
    · refine .inr ⟨by omega, fun j hj => ?_⟩
      have := runT_ge z k j hj
      omega

theorem runC_hit (z y : List Int) (k : Nat) (h : app z k = true) : runC z y (k + 1) = y.getD k 0 := by
  have e : runC z y (k + 1) = stepC (runC z y k) (runT z k) (z.getD k 0) (y.getD k 0) := rfl
  rw [e]; exact if_neg ((app_iff z k).1 h)

theorem runC_miss (z y : List Int) (k : Nat) (h : app z k = false) : runC z y (k + 1) = runC z y k := by
  have e : runC z y (k + 1) = stepC (runC z y k) (runT z k) (z.getD k 0) (y.getD k 0) := rfl
  rw [e]
  refine if_pos ?_
  refine Classical.byContradiction fun hn => ?_
  rw [(app_iff z k).2 hn] at h
  cases h

theorem runC_none (z y : List Int) (m : Nat) : ∀ n, m ≤ n → (∀ j, m ≤ j → j < n → app z j = false) → runC z y n = runC z y m := by
  intro n
  induction n with
  | zero => intro hm _; rw [show m = 0 from by omega]
  | succ n ih =>
    intro hm h
    by_cases e : m = n + 1
    · rw [e]
    · rw [runC_miss z y n (h n (by omega) (by omega))]
      exact ih (by omega) (fun j h1 h2 => h j h1 (by omega))

theorem getD_bd {z : List Int} (h : ∀ n ∈ z, -9223372036854775808 ≤ n ∧ n ≤ 9223372036854775807) (k : Nat) : -9223372036854775808 ≤ z.getD k 0 ∧ z.getD k 0 ≤ 9223372036854775807 := by
  by_cases hk : k < z.length
  · rw [List.getD_eq_getElem?_getD, List.getElem?_eq_getElem hk]; exact h _ (List.getElem_mem hk)
  · rw [List.getD_eq_getElem?_getD, List.getElem?_eq_none (by omega)]; simp

theorem runT_bd {z : List Int} (h : ∀ n ∈ z, -9223372036854775808 ≤ n ∧ n ≤ 9223372036854775807) (k : Nat) : -9223372036854775808 ≤ runT z k ∧ runT z k ≤ 9223372036854775807 := by
  have h1 := runT_nonneg z k
  have h2 := runT_le z 9223372036854775807 (by omega) k (fun j _ => (getD_bd h j).2)
  omega

theorem runC_bd {z y : List Int} (h : ∀ n ∈ y, -9223372036854775808 ≤ n ∧ n ≤ 9223372036854775807) (k : Nat) : -9223372036854775808 ≤ runC z y k ∧ runC z y k ≤ 9223372036854775807 := by
  induction k with
  | zero => show -9223372036854775808 ≤ (0 : Int) ∧ (0 : Int) ≤ 9223372036854775807; omega
  | succ k ih =>
    have e : runC z y (k + 1) = stepC (runC z y k) (runT z k) (z.getD k 0) (y.getD k 0) := rfl
    rw [e]; unfold stepC
    split
    · exact ih
    · exact getD_bd h k

/-! ### The walks -/
set_option maxHeartbeats 400000 in
theorem bytes_yes (a0 a1 : Option Addr) (l0 c0 l1 c1 : Nat) (w : World) (h : l0 + l1 ≤ 1048576) :
    Calls Try.prog 5 #[.slice a0 l0 c0, .slice a1 l1 c1] w fun e w' => e = .returned (.bool true) ∧ w' = w := by
  go_enter Try.func5, Try.ntmps5
  go_wp2
  go_ret
  exact ⟨rfl, rfl⟩

set_option maxHeartbeats 400000 in
theorem bytes_no (a0 a1 : Option Addr) (l0 c0 l1 c1 : Nat) (w : World) (m0 : l0 ≤ maxLen) (m1 : l1 ≤ maxLen) (h : ¬ l0 + l1 ≤ 1048576) :
    Calls Try.prog 5 #[.slice a0 l0 c0, .slice a1 l1 c1] w fun e w' => e = .returned (.bool false) ∧ w' = w := by
  unfold maxLen at m0 m1
  by_cases h0 : l0 ≤ 1048576
  · by_cases h1 : l1 ≤ 1048576
    all_goals
      go_enter Try.func5, Try.ntmps5
      go_wp2
      go_ret
      exact ⟨rfl, rfl⟩
  · go_enter Try.func5, Try.ntmps5
    go_wp2
    go_ret
    exact ⟨rfl, rfl⟩

set_option maxHeartbeats 400000 in
theorem applied_any (b o len cap k : Nat) (z : List Int) (w : World) (hk : k < len) (hl : len ≤ 4096) (hc : ∀ j, j < len → w.cell? ⟨b, o + j, none⟩ = some (.int .i64 (z.getD j 0))) :
    Calls Try.prog 8 #[.slice (some ⟨b, o, none⟩) len cap, .int .i64 k] w fun e w' => e = .returned (.bool (app z k)) ∧ w' = w := by
  obtain ⟨a, ha⟩ : ∃ a, z.getD k 0 = a := ⟨_, rfl⟩
  have hck := hc k hk
  rw [ha] at hck
  have HC : Hid (∀ j, j < len → w.cell? ⟨b, o + j, none⟩ = some (.int .i64 (z.getD j 0))) := hc
  have HA : Hid (z.getD k 0 = a) := ha
  clear hc ha
  by_cases h0 : a = 0
  · have E : Hid (app z k = true) := by unfold Hid app; rw [HA.out, decide_eq_true_iff]; exact .inl h0
    have h1 : (a == 0) = true := by simpa using h0
    clear h0
    go_enter Try.func8, Try.ntmps8
    go_wp2
    go_ret
    exact ⟨by rw [E.out]; rfl, rfl⟩
  · have h1 : (a == 0) = false := by simpa using h0
    by_cases h2 : a < 0
    · have E : Hid (app z k = false) := by
        unfold Hid app; rw [HA.out]; apply decide_eq_false; rintro (h | ⟨h, _⟩) <;> omega
      clear h0
      go_enter Try.func8, Try.ntmps8
      go_wp2
      go_ret
      exact ⟨by rw [E.out]; rfl, rfl⟩
    · have H0 : Hid (¬ a = 0) := h0
      clear h0
      go_enter Try.func8, Try.ntmps8
      go_wp2
      go_loop [6] (fun j => ∃ m : Nat, m ≤ k ∧ j = .int .i64 m ∧ Hid (∀ i, i < m → z.getD i 0 ≤ a)) (fun j => k - (intOf j).toNat)
      case atStart => exact ⟨0, by omega, rfl, fun i hi => by omega⟩
      case round =>
        obtain ⟨m, hm, rfl, HM⟩ := hrel
        by_cases hlt : m < k
        · have hcm := HC.out m (by omega)
          obtain ⟨x, hx⟩ : ∃ x, z.getD m 0 = x := ⟨_, rfl⟩
          rw [hx] at hcm
          have HX : Hid (z.getD m 0 = x) := hx
          clear hx
          by_cases hxa : a < x
          · have E : Hid (app z k = false) := by
              unfold Hid app; rw [HA.out]; apply decide_eq_false
              rintro (h | ⟨_, h⟩)
              · exact H0.out h
              · have := h m hlt; rw [HX.out] at this; omega
            go_wp2
            go_ret
            exact ⟨by rw [E.out]; rfl, rfl⟩
          · go_wp2
            go_round
            case rel =>
              refine ⟨m + 1, by omega, by go_num, fun i hi => ?_⟩
              by_cases e : i = m
              · subst e; rw [HX.out]; omega
              · exact HM.out i (by omega)
            case measure => simp [intOf]; omega
        · have E : Hid (app z k = true) := by
            unfold Hid app; rw [HA.out, decide_eq_true_iff]
            exact .inr ⟨by omega, fun j hj => HM.out j (by omega)⟩
          go_wp2
          go_ret
          exact ⟨by rw [E.out]; rfl, rfl⟩
end Go.Proofs.Qxb6615104a
