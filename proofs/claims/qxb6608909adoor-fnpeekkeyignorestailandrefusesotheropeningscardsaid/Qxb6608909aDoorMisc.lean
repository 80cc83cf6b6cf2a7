import Derived.Test.Qxb6608909aDoorPeek
namespace Go.Proofs.Qxb6608909aDoor
open Go.RowKit
set_option linter.unusedSimpArgs false
set_option linter.unusedVariables false

theorem peek_sl (b : Nat) (v : Value) (B : List Int) (w : World) (hs : Sl w v B) (hR : Rdr w b v B.length) (hm : B.length ≤ 4194304) :
    Calls Tryd.prog 22 #[.pointer (some ⟨b, 0, none⟩)] w fun e w' => ∃ r, e = .returned r ∧ Peeked w' B r ∧ Below w.heap.size w w' := by
  obtain ⟨a, c, rfl, hr, hn, hc⟩ := hs
  rcases hr with h | ⟨g, o, rfl, hg, hcell⟩
  · subst h
    exact peek_empty b a c w hR
  · by_cases h0 : B.length = 0
    · obtain rfl : B = [] := List.eq_nil_of_length_eq_zero h0
      exact peek_empty b _ c w hR
    · exact peek_full b g o B.length c B w hR rfl hc hm hg hcell (by omega)

set_option maxHeartbeats 400000 in
theorem digits_any (n : Nat) (w : World) (hn : n ≤ 1099511627776) :
    Calls Tryd.prog 32 #[.int .i64 n] w fun e w' => e = .returned (.int .i64 (((num n).length : Nat) : Int)) ∧ w' = w := by
  obtain ⟨N, hN⟩ : ∃ N, (num n).length = N := ⟨_, rfl⟩
  rw [hN]
  have HN : Hid ((num n).length = N) := hN
  have hNb : N ≤ 100 := by
    have := num_le n (by omega); omega
  clear hN
  go_enter Tryd.func32, Tryd.ntmps32
  go_wp2
  go_loop [0, 3] (fun v d => ∃ x k : Nat, v = .int .i64 x ∧ d = .int .i64 k ∧ x ≤ n ∧ k ≤ N ∧ Hid (k + (num x).length = N + 1)) (fun v _ => (intOf v).toNat)
  case atStart => exact ⟨n, 1, rfl, rfl, by omega, by have := num_pos n; have := HN.out; omega, by have := HN.out; unfold Hid; omega⟩
  case round =>
    obtain ⟨x, k, rfl, rfl, hx, hk, HR⟩ := hrel
    by_cases h10 : x < 10
    · have h1 : (num x).length = 1 := by rw [num_small x h10]; rfl
      have hkN : k = N := by have := HR.out; omega
      subst hkN
      go_wp2
      go_ret
      exact ⟨rfl, rfl⟩
    · have h1 : (num x).length = (num (x / 10)).length + 1 := by rw [num_big x h10, List.length_append]; rfl
      have h2 := num_pos (x / 10)
      have h3 := HR.out
      have HR2 : Hid (k + 1 + (num (x / 10)).length = N + 1) := by unfold Hid; omega
      have hk2 : k + 1 ≤ N := by omega
      clear h1 h2 h3
      go_wp2
      go_round
      case rel => exact ⟨x / 10, k + 1, by go_num, by go_num, by omega, hk2, HR2⟩
      case measure => simp [intOf]; omega

theorem bulk_len_eq (e : List Int) : ((bulk e).length : Int) = 1 + ((num e.length).length : Int) + 2 + (e.length : Int) + 2 := by
  rw [bulk_length]; omega

def wireTo (ess : List (List Int)) (k : Nat) : Nat := (hdr 42 ess.length ++ (ess.take k).flatMap bulk).length
theorem wireTo_succ (ess : List (List Int)) (k : Nat) (h : k < ess.length) : wireTo ess (k + 1) = wireTo ess k + (1 + (num (ess.getD k []).length).length + 2 + (ess.getD k []).length + 2) := by
  unfold wireTo
  rw [take_snoc ess k h, ← List.append_assoc, List.length_append, bulk_length]
theorem wireTo_le (ess : List (List Int)) (k : Nat) : wireTo ess k ≤ (arr ess).length := arr_prefix ess k
theorem wireTo_all (ess : List (List Int)) : wireTo ess ess.length = (arr ess).length := by
  unfold wireTo arr; rw [List.take_length]
theorem wireTo_zero (ess : List (List Int)) : wireTo ess 0 = 1 + (num ess.length).length + 2 := by
  unfold wireTo; rw [List.take_zero]; simp [hdr_length]

set_option maxHeartbeats 1000000 in
theorem wire_any (a : Option Addr) (len cap : Nat) (ess : List (List Int)) (w : World) (hlen : ess.length = len) (h1 : len ≤ 9999999) (h3 : (arr ess).length ≤ 536870912) (h2 : ∀ e ∈ ess, e.length ≤ 9999999) (hs : Sll w a ess) :
    Calls Tryd.prog 20 #[.slice a len cap] w fun r w' => r = .returned (.int .i64 (((arr ess).length : Nat) : Int)) ∧ Below w.heap.size w w' := by
  have HL : Hid (ess.length = len) := hlen
  have H2 : Hid (∀ e ∈ ess, e.length ≤ 9999999) := h2
  have H3 : Hid ((arr ess).length ≤ 536870912) := h3
  have HS : Hid (Sll w a ess) := hs
  have W0 := wireTo_zero ess
  have WE := wireTo_all ess
  rw [hlen] at W0 WE
  rw [← WE]
  have HW0 := Hid.intro' W0
  have n7 := num_len7 len h1
  clear hlen h2 h3 hs W0 WE
  go_enter Tryd.func20, Tryd.ntmps20
  go_wp2_with (go_at_call 32; refine (digits_any len w (by omega)).mono ?_; rintro e w' ⟨rfl, hw'⟩; rw [hw']; clear hw' w')
  go_loopw [3, 4] (fun t i wr => ∃ k : Nat, k ≤ len ∧ i = .int .i64 k ∧ t = .int .i64 ((wireTo ess k : Nat) : Int) ∧ Below w.heap.size w wr) (fun _ i _ => len - (intOf i).toNat)
  case atStart => exact ⟨0, by omega, rfl, by rw [HW0.out]; go_num, Below.refl _ _⟩
  case round =>
    obtain ⟨k, hk, rfl, rfl, hb⟩ := hrel
    by_cases hlt : k < len
    · rcases HS.out with h | ⟨b, o, hx, hbB, hc⟩
      · rw [h] at HL; have := HL.out; simp at this; omega
      subst hx
      obtain ⟨u, hu1, hu2⟩ := hc k (by rw [HL.out]; exact hlt)
      have hcu : wr.cell? ⟨b, o + k, none⟩ = some u := (hb.cell (p := ⟨b, o + k, none⟩) hbB).trans hu1
      obtain ⟨au, cu, hu3, hu4, hu5, hu6⟩ := hu2
      have hmem : (ess.getD k []).length ≤ 9999999 := by
        have hk' : k < ess.length := by rw [HL.out]; exact hlt
        rw [List.getD_eq_getElem?_getD, List.getElem?_eq_getElem hk']
        exact H2.out _ (List.getElem_mem hk')
      have WS := wireTo_succ ess k (by rw [HL.out]; exact hlt)
      have WL := Nat.le_trans (wireTo_le ess k) H3.out
      obtain ⟨L, hL⟩ : ∃ L, (ess.getD k []).length = L := ⟨_, rfl⟩
      obtain ⟨T, hT⟩ : ∃ T, wireTo ess k = T := ⟨_, rfl⟩
      obtain ⟨q, hq⟩ : ∃ q, (num L).length = q := ⟨_, rfl⟩
      rw [hL] at hu3 hmem WS
      rw [hT] at WS WL ⊢
      have q7 := num_len7 L hmem
      rw [hq] at WS q7
      have HWS := Hid.intro' WS
      have DG := fun W => digits_any L W (by omega)
      rw [hq] at DG
      have HDG := Hid.intro' DG
      subst hu3
      clear hu4 hu5 hu6 hu1 hc WS hL hT hq DG
      have i1 : (0 : Int) ≤ (k : Int) := by omega
      have i2 : (k : Int) < (len : Int) := by omega
      go_wp2_with fail
      go_quiet ((go_at_call 32; exact Calls.quiet_of_same (HDG.out _)))
      go_wp2
      go_roundw
      case rel => exact ⟨k + 1, by omega, by go_num, by rw [HWS.out]; go_num, below_drewN hb nq⟩
      case measure => simp [intOf]; omega
    · obtain rfl : len = k := by omega
      go_wp2
      go_ret
      exact ⟨rfl, hb⟩
end Go.Proofs.Qxb6608909aDoor
