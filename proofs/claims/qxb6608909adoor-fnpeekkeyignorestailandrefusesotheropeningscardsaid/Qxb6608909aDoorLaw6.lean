import Derived.Test.Qxb6608909aDoorSize
import Derived.Test.Qxb6608909aDoorKeyAt
namespace Go.Proofs.Qxb6608909aDoor
open Go.RowKit
set_option linter.unusedSimpArgs false
set_option linter.unusedVariables false

/-- The key's end, as zzKeyEnd reckons it. -/
def KeyEnds : Prop := ∀ (a : Option Addr) (len cap : Nat) (ess : List (List Int)) (w : World), ess.length = len → len ≤ 9999999 → (∀ e ∈ ess, e.length ≤ 9999999) → 2 ≤ len → Sll w a ess →
    Calls Tryd.prog 23 #[.slice a len cap] w fun r w' => r = .returned (.int .i64 ((keyEnd ess : Nat) : Int)) ∧ Below w.heap.size w w'

theorem mem_getD' {ess : List (List Int)} {M : Nat} (h : ∀ e ∈ ess, e.length ≤ M) (k : Nat) : (ess.getD k []).length ≤ M := by
  by_cases hk : k < ess.length
  · rw [List.getD_eq_getElem?_getD, List.getElem?_eq_getElem hk]
    exact h _ (List.getElem_mem hk)
  · rw [List.getD_eq_getElem?_getD, List.getElem?_eq_none (by omega)]; simp

/-- The cell that holds the k-th byte slice, and what it holds. -/
theorem Sll.get {w : World} {a : Option Addr} {ess : List (List Int)} (h : Sll w a ess) (k : Nat) (hk : k < ess.length) :
    ∃ b o au cu, a = some ⟨b, o, none⟩ ∧ b < w.heap.size ∧ w.cell? ⟨b, o + k, none⟩ = some (.slice au (ess.getD k []).length cu) ∧ Sl w (.slice au (ess.getD k []).length cu) (ess.getD k []) := by
  rcases h with h | ⟨b, o, ha, hlt, hc⟩
  · rw [h] at hk; simp at hk
  · obtain ⟨u, h1, h2⟩ := hc k hk
    have h3 := h2
    obtain ⟨au, cu, hu, _⟩ := h3
    rw [hu] at h1 h2
    exact ⟨b, o, au, cu, ha, hlt, h1, h2⟩

theorem sizes_step {ess : List (List Int)} {len k T L : Nat} (hk : k < ess.length) (hL : (ess.getD k []).length = L) (h7 : L ≤ 9999999) (h : wireTo ess k + 24 * len ≤ T + 10 + 12 * k) : wireTo ess (k + 1) + 24 * len ≤ T + L + 10 + 12 * (k + 1) := by
  rw [wireTo_succ ess k hk, hL]
  have := num_len7 L h7
  omega

set_option maxRecDepth 20000 in
set_option maxHeartbeats 2000000 in
theorem law6_head (a : Option Addr) (len cap : Nat) (k : Int) (ess : List (List Int)) (w : World) (hk0 : -9223372036854775808 ≤ k) (hk1 : k ≤ 9223372036854775807) (h : Cells w a len ess) (ht : Tab w.heap.size w) (KE : KeyEnds) :
    Calls Tryd.prog 6 #[.slice a len cap, .int .i64 k] w fun e w' => e = .returned (.bool true) ∧ Below w.heap.size w w' := by
  have hm' : len ≤ 9223372036854775807 := by have := h.2.1; unfold maxLen at this; omega
  have HH : Hid (Cells w a len ess) := h
  clear h
  go_enter Tryd.func6, Tryd.ntmps6
  go_wp2_with fail
  refine (bytes19 a len cap k ess w HH.out).mono ?_
  rintro e w' ⟨b, rfl, hw, hb⟩
  subst hw
  cases b with
  | false =>
    clear hb
    go_wp2
    go_ret
    exact ⟨rfl, Below.refl _ _⟩
  | true =>
    obtain ⟨hl0, hsm⟩ := hb rfl
    have HSM : Hid (∀ e ∈ ess, e.length ≤ 1048576) := hsm
    clear hsm hb
    by_cases g1 : 65536 < len
    · have g1' : (65536 : Int) < (len : Int) := by omega
      go_wp2
      go_ret
      exact ⟨rfl, Below.refl _ _⟩
    by_cases g2 : 1048576 < 24 * len
    · have g2' : (1048576 : Int) < 24 * (len : Int) := by omega
      go_wp2
      go_ret
      exact ⟨rfl, Below.refl _ _⟩
    go_wp2
    go_loop [5, 6] (fun t i => ∃ j T : Nat, j ≤ len ∧ i = .int .i64 j ∧ t = .int .i64 T ∧ T ≤ 1048576 ∧ Hid (wireTo ess j + 24 * len ≤ T + 10 + 12 * j)) (fun _ i => len - (intOf i).toNat)
    case atStart =>
      refine ⟨0, 24 * len, by omega, rfl, by go_num, by omega, ?_⟩
      have := num_len7 len (by omega)
      unfold Hid
      rw [wireTo_zero, HH.out.1]
      omega
    case round =>
      obtain ⟨j, T, hj, rfl, rfl, hT, HT⟩ := hrel
      by_cases hlt : j < len
      · obtain ⟨b, o, hx, hbB, hc⟩ : ∃ b o, a = some ⟨b, o, none⟩ ∧ b < w'.heap.size ∧ ∀ j, j < ess.length → ∃ u, w'.cell? ⟨b, o + j, none⟩ = some u ∧ Sl w' u (ess.getD j []) := by
          rcases HH.out.2.2.2 with h | h
          · have := HH.out.1; rw [h] at this; simp at this; omega
          · exact h
        subst hx
        obtain ⟨u, hu1, hu2⟩ := hc j (by rw [HH.out.1]; exact hlt)
        obtain ⟨au, cu, hu3, hu4, hu5, hu6⟩ := hu2
        have hmem := mem_getD' HSM.out j
        obtain ⟨L, hL⟩ : ∃ L, (ess.getD j []).length = L := ⟨_, rfl⟩
        rw [hL] at hu3 hmem
        have HS2 := Hid.intro' (sizes_step (by rw [HH.out.1]; exact hlt) hL (by omega) HT.out)
        rw [hu3] at hu1
        clear hu3 hu4 hu5 hu6 hc hL
        have i1 : (0 : Int) ≤ (j : Int) := by omega
        have i2 : (j : Int) < (len : Int) := by omega
        by_cases g3 : 1048576 < T + L
        · have g3' : (1048576 : Int) < (T : Int) + (L : Int) := by omega
          go_wp2
          go_ret
          exact ⟨rfl, Below.refl _ _⟩
        · have g3' : ¬ (1048576 : Int) < (T : Int) + (L : Int) := by omega
          go_wp2
          go_round
          case rel => exact ⟨j + 1, T + L, by omega, by go_num, by go_num, by omega, HS2⟩
          case measure => simp [intOf]; omega
      · obtain rfl : len = j := by omega
        have hN : (arr ess).length ≤ 1048586 := by
          have h1 := HT.out
          have h2 := wireTo_all ess
          rw [HH.out.1] at h2
          omega
        obtain ⟨N, hNN⟩ : ∃ N, (arr ess).length = N := ⟨_, rfl⟩
        have HN := Hid.intro' hNN
        rw [hNN] at hN
        have HE : Hid (∀ e ∈ ess, e.length ≤ 4194304) := fun e he => Nat.le_trans (HSM.out e he) (by omega)
        have HE9 : Hid (∀ e ∈ ess, e.length ≤ 9999999) := fun e he => Nat.le_trans (HSM.out e he) (by omega)
        have WA := wire_any a len cap ess w' HH.out.1 (by omega) (by rw [hNN]; omega) HE9.out HH.out.2.2.2
        rw [hNN] at WA
        clear hNN
        have HWA := Hid.intro' WA
        clear WA HT
        go_wp2_with fail
        refine HWA.out.mono ?_
        rintro e w1 ⟨rfl, hb1⟩
        by_cases k0 : k < 0
        · go_wp2
          go_ret
          exact ⟨rfl, hb1⟩
        by_cases kN : (N : Int) < k
        · go_wp2
          go_ret
          exact ⟨rfl, hb1⟩
        obtain ⟨K, rfl⟩ : ∃ K : Nat, k = (K : Int) := ⟨k.toNat, by omega⟩
        have hKN : K ≤ N := by omega
        have H0 := Hid.intro' (HH.out.2.2.2.below hb1)
        clear hk0 hk1
        go_wp2_with fail
        refine (cloneAll_any a len cap ess w1 HH.out.1 (by omega) HE.out H0.out).mono ?_
        rintro e w2 ⟨a', c', rfl, hs2, hb2⟩
        have hb02 := hb1.trans (hb2.mono hb1.size)
        have HS2 := Hid.intro' hs2
        have H1 := Hid.intro' (H0.out.below hb2)
        clear hs2
        go_wp2_with fail
        refine (array_any a len cap ess w2 HH.out.1 (by omega) HE9.out (by rw [HN.out]; omega) H1.out (ht.on hb02).fresh).mono ?_
        rintro e w3 ⟨v3, rfl, ho3, hb3⟩
        have hb03 := hb02.trans (hb3.mono hb02.size)
        have HS3 := Hid.intro' (HS2.out.below hb3)
        obtain ⟨a3, c3, hv3, hr3, hn3, hc3⟩ := ho3.form
        have hpos : 0 < N := by have := wireTo_le ess 0; rw [wireTo_zero, HN.out] at this; omega
        obtain ⟨b3, o3, ha3, hlt3, hcell3⟩ : ∃ b o, a3 = some ⟨b, o, none⟩ ∧ b < w3.heap.size ∧ ∀ j, j < (arr ess).length → w3.cell? ⟨b, o + j, none⟩ = some (.int .u8 ((arr ess).getD j 0)) := by
          rcases hr3 with h | h
          · have := HN.out; rw [h] at this; simp at this; omega
          · exact h
        subst ha3
        rw [HN.out] at hv3 hc3
        subst hv3
        have HSL : Hid (∀ w4, Below w3.heap.size w3 w4 → Sl w4 (.slice (some ⟨b3, o3, none⟩) K c3) ((arr ess).take K)) := by
          intro w4 hb4
          have hr : Rd w3 w3.heap.size (some ⟨b3, o3, none⟩) (arr ess) := .inr ⟨b3, o3, rfl, hlt3, hcell3⟩
          refine ⟨_, c3, ?_, ((hr.take K).below hb4 (Nat.le_refl _)).up hb4.size, (fun e => by cases e), ?_⟩
          · rw [List.length_take, HN.out, Nat.min_eq_left hKN]
          · rw [List.length_take, HN.out, Nat.min_eq_left hKN]; omega
        have HKL : Hid (((arr ess).take K).length = K) := by
          unfold Hid; rw [List.length_take, HN.out, Nat.min_eq_left hKN]
        have hKc : K ≤ c3 := by omega
        clear ho3 hr3 hn3 hcell3
        go_wp2_with fail
        refine (reader_any (some ⟨b3, o3, none⟩) K c3 w3).mono ?_
        rintro e w4 ⟨rfl, hR4, hb4⟩
        have HR4 := Hid.intro' hR4
        clear hR4
        have PK := peek_sl w3.heap.size (.slice (some ⟨b3, o3, none⟩) K c3) ((arr ess).take K) w4 (HSL.out w4 hb4) (by rw [HKL.out]; exact HR4.out) (by rw [HKL.out]; omega)
        have HPK := Hid.intro' PK
        clear PK
        go_wp2_with fail
        refine HPK.out.mono ?_
        rintro e w5 ⟨r, rfl, hp, hb5⟩
        have hb35 := hb4.trans (hb5.mono hb4.size)
        have hb05 := hb03.trans (hb35.mono hb03.size)
        have HS5 := Hid.intro' (HS3.out.below hb35)
        have HP := peeked_cut (es := ess) (tail := []) (k := K) (r := r) (w := w5) (by rw [HH.out.1]; omega) HE9.out (by rw [List.append_nil, HN.out]; exact hKN) (by rw [List.append_nil]; exact hp)
        rw [HH.out.1] at HP
        have HPP := Hid.intro' HP
        clear HP hp HPK HR4 HSL
        by_cases l2 : len < 2
        · have hr : r = .slice none 0 0 := by
            have := HPP.out
            rw [if_neg (by omega)] at this
            exact this
          subst hr
          have l2' : (len : Int) < 2 := by omega
          have hq := fun w => Lib.run_eql_slice_nil (P := Tryd.prog) w 22 5 none 0 0 0 0 Tryd.underlying22
          clear HPP
          go_wp2
          go_ret
          exact ⟨rfl, hb05⟩
        · have l2' : ¬ (len : Int) < 2 := by omega
          go_wp2_with fail
          refine (KE a' len c' ess w5 HH.out.1 (by omega) HE9.out (by omega) HS5.out).mono ?_
          rintro e w6 ⟨rfl, hb6⟩
          have hb06 := hb05.trans (hb6.mono hb05.size)
          obtain ⟨Q, hQ⟩ : ∃ Q, keyEnd ess = Q := ⟨_, rfl⟩
          have HP := HPP.out
          rw [hQ] at HP ⊢
          clear hQ HPP
          by_cases kQ : K < Q
          · have kQ' : (K : Int) < (Q : Int) := by omega
            rw [if_neg (by omega)] at HP
            subst HP
            have hq := fun w => Lib.run_eql_slice_nil (P := Tryd.prog) w 22 5 none 0 0 0 0 Tryd.underlying22
            go_wp2
            go_ret
            exact ⟨rfl, hb06⟩
          · have kQ' : ¬ (K : Int) < (Q : Int) := by omega
            rw [if_pos (by omega)] at HP
            obtain ⟨⟨ad, cc, hr⟩, hsl⟩ := HP
            obtain ⟨b1, o1, au, cu, ha1, hlt1, hc1, hs1⟩ := HS5.out.get 1 (by rw [HH.out.1]; omega)
            subst ha1
            have hc1' := (hb6.cell (p := ⟨b1, o1 + 1, none⟩) hlt1).trans hc1
            have hle := mem_getD' HE.out 1
            have EQ := eq_sl r _ _ _ w6 (hsl.below hb6) (hs1.below hb6) hle hle
            rw [decide_eq_true rfl] at EQ
            obtain ⟨L1, hL1⟩ : ∃ L, (ess.getD 1 []).length = L := ⟨_, rfl⟩
            rw [hL1] at hc1' EQ hr
            subst hr
            have HEQ := Hid.intro' EQ
            clear EQ hsl hs1 hc1 hle hL1
            have hq := fun w => run_neq_slice_nil_any (P := Tryd.prog) w 22 5 (some ad) L1 cc 0 0 Tryd.underlying22
            have i1 : (1 : Int) < (len : Int) := by omega
            go_wp2_with fail
            refine HEQ.out.mono ?_
            rintro e w7 ⟨rfl, hb7⟩
            go_wp2
            go_ret
            exact ⟨rfl, hb06.trans (hb7.mono hb06.size)⟩
end Go.Proofs.Qxb6608909aDoor
