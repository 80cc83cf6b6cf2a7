import Derived.Test.Qxb6608909aDoorAll
namespace Go.Proofs.Qxb6608909aDoor
open Go.RowKit
set_option linter.unusedSimpArgs false
set_option linter.unusedVariables false

/-- What is known of a slice of byte slices ahead of any bound. -/
def Cells (w : World) (a : Option Addr) (len : Nat) (ess : List (List Int)) : Prop :=
  ess.length = len ∧ len ≤ maxLen ∧ (∀ e ∈ ess, e.length ≤ maxLen) ∧ Sll w a ess

def Small (len : Nat) (ess : List (List Int)) : Prop := len ≤ 1048576 ∧ ∀ e ∈ ess, e.length ≤ 1048576
def Small2 (len lt : Nat) (ess : List (List Int)) : Prop := Small len ess ∧ lt ≤ 1048576
/-- A gate: it answers a bool and leaves all as it was; where it answers true, C. -/
def Gate (r : Ending) (w w' : World) (C : Prop) : Prop := ∃ b, r = .returned (.bool b) ∧ w' = w ∧ (b = true → C)
theorem Gate.no {w : World} {C : Prop} : Gate (.returned (.bool false)) w w C := ⟨_, rfl, rfl, fun e => by cases e⟩
theorem Gate.yes {w : World} {C : Prop} (h : C) : Gate (.returned (.bool true)) w w C := ⟨_, rfl, rfl, fun _ => h⟩

set_option maxRecDepth 20000 in
set_option maxHeartbeats 1000000 in
theorem bytes19 (a : Option Addr) (len cap : Nat) (k1 : Int) (ess : List (List Int)) (w : World) (h : Cells w a len ess) :
    Calls Tryd.prog 19 #[.slice a len cap, .int .i64 k1] w fun r w' => Gate r w w' (Small len ess) := by
  obtain ⟨hlen, hm, hme, hs⟩ := h
  have HL : Hid (ess.length = len) := hlen
  have HE : Hid (∀ e ∈ ess, e.length ≤ maxLen) := hme
  have HS : Hid (Sll w a ess) := hs
  have hm' : len ≤ 9223372036854775807 := by unfold maxLen at hm; omega
  clear hlen hme hs hm
  by_cases hbig : 1048576 < len
  · have hb : (1048576 : Int) < (len : Int) := by omega
    go_enter Tryd.func19, Tryd.ntmps19
    go_wp2
    go_ret
    exact Gate.no
  · go_enter Tryd.func19, Tryd.ntmps19
    go_wp2
    go_loop [5, 6] (fun t i => ∃ k T : Nat, k ≤ len ∧ i = .int .i64 k ∧ t = .int .i64 T ∧ T ≤ 1048576 ∧ Hid (∀ j, j < k → (ess.getD j []).length ≤ 1048576)) (fun _ i => len - (intOf i).toNat)
    case atStart => exact ⟨0, len, by omega, rfl, rfl, by omega, fun j hj => by omega⟩
    case round =>
      obtain ⟨k, T, hk, rfl, rfl, hT, HK⟩ := hrel
      by_cases hlt : k < len
      · rcases HS.out with h | ⟨b, o, hx, hbB, hc⟩
        · rw [h] at HL; have := HL.out; simp at this; omega
        subst hx
        obtain ⟨u, hu1, hu2⟩ := hc k (by rw [HL.out]; exact hlt)
        obtain ⟨au, cu, hu3, hu4, hu5, hu6⟩ := hu2
        have hmem : (ess.getD k []).length ≤ 9223372036854775807 := by
          have hk' : k < ess.length := by rw [HL.out]; exact hlt
          rw [List.getD_eq_getElem?_getD, List.getElem?_eq_getElem hk']
          have := HE.out _ (List.getElem_mem hk')
          unfold maxLen at this; simp; omega
        obtain ⟨L, hL⟩ : ∃ L, (ess.getD k []).length = L := ⟨_, rfl⟩
        rw [hL] at hu3 hmem
        have HLk := Hid.intro' hL
        rw [hu3] at hu1
        clear hu3 hu4 hu5 hu6 hc hL
        have i1 : (0 : Int) ≤ (k : Int) := by omega
        have i2 : (k : Int) < (len : Int) := by omega
        by_cases g1 : 1048576 < L
        · have g1' : (1048576 : Int) < (L : Int) := by omega
          go_wp2
          go_ret
          exact Gate.no
        · by_cases g2 : 1048576 < T + L
          · have g2' : (1048576 : Int) < (T : Int) + (L : Int) := by omega
            go_wp2
            go_ret
            exact Gate.no
          · have g2' : ¬ (1048576 : Int) < (T : Int) + (L : Int) := by omega
            go_wp2
            go_round
            case rel =>
              refine ⟨k + 1, T + L, by omega, by go_num, by go_num, by omega, fun j hj => ?_⟩
              by_cases e : j = k
              · subst e; rw [HLk.out]; omega
              · exact HK.out j (by omega)
            case measure => simp [intOf]; omega
      · obtain rfl : len = k := by omega
        go_wp2
        go_ret
        refine Gate.yes ⟨by omega, fun e he => ?_⟩
        obtain ⟨j, hj, rfl⟩ := List.getElem_of_mem he
        have := HK.out j (by have := HL.out; omega)
        rw [List.getD_eq_getElem?_getD, List.getElem?_eq_getElem hj] at this
        exact this

set_option maxRecDepth 20000 in
set_option maxHeartbeats 1000000 in
theorem bytes24 (a at' : Option Addr) (len cap lt ct : Nat) (k1 : Int) (ess : List (List Int)) (w : World) (hlt : lt ≤ maxLen) (h : Cells w a len ess) :
    Calls Tryd.prog 24 #[.slice a len cap, .slice at' lt ct, .int .u8 k1] w fun r w' => Gate r w w' (Small2 len lt ess) := by
  obtain ⟨hlen, hm, hme, hs⟩ := h
  have HL : Hid (ess.length = len) := hlen
  have HE : Hid (∀ e ∈ ess, e.length ≤ maxLen) := hme
  have HS : Hid (Sll w a ess) := hs
  have hm' : len ≤ 9223372036854775807 := by unfold maxLen at hm; omega
  have hlt' : lt ≤ 9223372036854775807 := by unfold maxLen at hlt; omega
  clear hlen hme hs hm hlt
  by_cases hbig : 1048576 < len
  · have hb : (1048576 : Int) < (len : Int) := by omega
    go_enter Tryd.func24, Tryd.ntmps24
    go_wp2
    go_ret
    exact Gate.no
  · go_enter Tryd.func24, Tryd.ntmps24
    go_wp2
    go_loop [7, 8] (fun t i => ∃ k T : Nat, k ≤ len ∧ i = .int .i64 k ∧ t = .int .i64 T ∧ T ≤ 1048576 ∧ Hid (∀ j, j < k → (ess.getD j []).length ≤ 1048576)) (fun _ i => len - (intOf i).toNat)
    case atStart => exact ⟨0, len, by omega, rfl, rfl, by omega, fun j hj => by omega⟩
    case round =>
      obtain ⟨k, T, hk, rfl, rfl, hT, HK⟩ := hrel
      by_cases hlt : k < len
      · rcases HS.out with h | ⟨b, o, hx, hbB, hc⟩
        · rw [h] at HL; have := HL.out; simp at this; omega
        subst hx
        obtain ⟨u, hu1, hu2⟩ := hc k (by rw [HL.out]; exact hlt)
        obtain ⟨au, cu, hu3, hu4, hu5, hu6⟩ := hu2
        have hmem : (ess.getD k []).length ≤ 9223372036854775807 := by
          have hk' : k < ess.length := by rw [HL.out]; exact hlt
          rw [List.getD_eq_getElem?_getD, List.getElem?_eq_getElem hk']
          have := HE.out _ (List.getElem_mem hk')
          unfold maxLen at this; simp; omega
        obtain ⟨L, hL⟩ : ∃ L, (ess.getD k []).length = L := ⟨_, rfl⟩
        rw [hL] at hu3 hmem
        have HLk := Hid.intro' hL
        rw [hu3] at hu1
        clear hu3 hu4 hu5 hu6 hc hL
        have i1 : (0 : Int) ≤ (k : Int) := by omega
        have i2 : (k : Int) < (len : Int) := by omega
        by_cases g1 : 1048576 < L
        · have g1' : (1048576 : Int) < (L : Int) := by omega
          go_wp2
          go_ret
          exact Gate.no
        · by_cases g2 : 1048576 < T + L
          · have g2' : (1048576 : Int) < (T : Int) + (L : Int) := by omega
            go_wp2
            go_ret
            exact Gate.no
          · have g2' : ¬ (1048576 : Int) < (T : Int) + (L : Int) := by omega
            go_wp2
            go_round
            case rel =>
              refine ⟨k + 1, T + L, by omega, by go_num, by go_num, by omega, fun j hj => ?_⟩
              by_cases e : j = k
              · subst e; rw [HLk.out]; omega
              · exact HK.out j (by omega)
            case measure => simp [intOf]; omega
      · obtain rfl : len = k := by omega
        have HY : Hid (Small len ess) := by
          refine ⟨by omega, fun e he => ?_⟩
          obtain ⟨j, hj, rfl⟩ := List.getElem_of_mem he
          have := HK.out j (by have := HL.out; omega)
          rw [List.getD_eq_getElem?_getD, List.getElem?_eq_getElem hj] at this
          exact this
        by_cases g1 : 1048576 < lt
        · have g1' : (1048576 : Int) < (lt : Int) := by omega
          go_wp2
          go_ret
          exact Gate.no
        · by_cases g2 : 1048576 < T + lt
          · have g2' : (1048576 : Int) < (T : Int) + (lt : Int) := by omega
            go_wp2
            go_ret
            exact Gate.no
          · have g2' : ¬ (1048576 : Int) < (T : Int) + (lt : Int) := by omega
            go_wp2
            go_ret
            exact Gate.yes ⟨HY.out, by omega⟩
end Go.Proofs.Qxb6608909aDoor
