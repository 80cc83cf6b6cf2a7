import Derived.Test.Qxb6608909aDoorAll
namespace Go.Proofs.Qxb6608909aDoor
open Go.RowKit
set_option linter.unusedSimpArgs false
set_option linter.unusedVariables false

/-- The cell that holds the k-th byte slice, and what it holds. -/
theorem Sll.at {w : World} {a : Option Addr} {ess : List (List Int)} (h : Sll w a ess) (k : Nat) (hk : k < ess.length) :
    ∃ b o au cu, a = some ⟨b, o, none⟩ ∧ b < w.heap.size ∧ w.cell? ⟨b, o + k, none⟩ = some (.slice au (ess.getD k []).length cu) ∧ Sl w (.slice au (ess.getD k []).length cu) (ess.getD k []) := by
  rcases h with h | ⟨b, o, ha, hlt, hc⟩
  · rw [h] at hk; simp at hk
  · obtain ⟨u, h1, h2⟩ := hc k hk
    have h3 := h2
    obtain ⟨au, cu, hu, _⟩ := h3
    rw [hu] at h1 h2
    exact ⟨b, o, au, cu, ha, hlt, h1, h2⟩

theorem mem_getD {ess : List (List Int)} {M : Nat} (h : ∀ e ∈ ess, e.length ≤ M) (k : Nat) : (ess.getD k []).length ≤ M := by
  by_cases hk : k < ess.length
  · rw [List.getD_eq_getElem?_getD, List.getElem?_eq_getElem hk]
    exact h _ (List.getElem_mem hk)
  · rw [List.getD_eq_getElem?_getD, List.getElem?_eq_none (by omega)]; simp

set_option maxRecDepth 20000 in
set_option maxHeartbeats 1000000 in
theorem keyEnd_any (a : Option Addr) (len cap : Nat) (ess : List (List Int)) (w : World) (hlen : ess.length = len) (h1 : len ≤ 9999999) (h2 : ∀ e ∈ ess, e.length ≤ 9999999) (h3 : 2 ≤ len) (hs : Sll w a ess) :
    Calls Tryd.prog 23 #[.slice a len cap] w fun r w' => r = .returned (.int .i64 ((keyEnd ess : Nat) : Int)) ∧ Below w.heap.size w w' := by
  obtain ⟨b, o, a0, c0, ha, hb, hc0, _⟩ := hs.at 0 (by omega)
  obtain ⟨b', o', a1, c1, ha', hb', hc1, _⟩ := hs.at 1 (by omega)
  rw [ha] at ha'
  injection ha' with ha'
  injection ha' with e1 e2
  subst e1; subst e2; subst ha
  have m0 := mem_getD h2 0
  have m1 := mem_getD h2 1
  unfold keyEnd
  rw [hlen]
  obtain ⟨L0, hL0⟩ : ∃ L, (ess.getD 0 []).length = L := ⟨_, rfl⟩
  obtain ⟨L1, hL1⟩ : ∃ L, (ess.getD 1 []).length = L := ⟨_, rfl⟩
  rw [hL0] at hc0 m0 ⊢
  rw [hL1] at hc1 m1 ⊢
  have q := num_len7 len h1
  have q0 := num_len7 L0 m0
  have q1 := num_len7 L1 m1
  have D := fun W => digits_any len W (by omega)
  have D0 := fun W => digits_any L0 W (by omega)
  have D1 := fun W => digits_any L1 W (by omega)
  obtain ⟨n, hn⟩ : ∃ n, (num len).length = n := ⟨_, rfl⟩
  obtain ⟨n0, hn0⟩ : ∃ n, (num L0).length = n := ⟨_, rfl⟩
  obtain ⟨n1, hn1⟩ : ∃ n, (num L1).length = n := ⟨_, rfl⟩
  rw [hn] at D q ⊢
  rw [hn0] at D0 q0 ⊢
  rw [hn1] at D1 q1 ⊢
  have HD := Hid.intro' D
  have HD0 := Hid.intro' D0
  have HD1 := Hid.intro' D1
  rw [Nat.add_zero] at hc0
  clear D D0 D1 hn hn0 hn1 hL0 hL1 hs h2 hlen
  have i1 : (0 : Int) < (len : Int) := by omega
  have i2 : (1 : Int) < (len : Int) := by omega
  go_enter Tryd.func23, Tryd.ntmps23
  go_wp2_with fail
  go_quiet ((go_at_call 32; first | (with_reducible exact Calls.quiet_of_same (HD.out _)) | (with_reducible exact Calls.quiet_of_same (HD0.out _)) | (with_reducible exact Calls.quiet_of_same (HD1.out _))))
  go_wp2
  go_ret
  exact ⟨by congr 2, below_drewN (Below.refl _ _) nq⟩
end Go.Proofs.Qxb6608909aDoor
