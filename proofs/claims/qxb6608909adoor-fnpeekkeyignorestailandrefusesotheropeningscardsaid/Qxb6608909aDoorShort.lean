import Derived.Test.Qxb6608909aDoorWrite
namespace Go.Proofs.Qxb6608909aDoor
open Go.RowKit
set_option linter.unusedSimpArgs false
set_option linter.unusedVariables false

theorem cnt_ge (D : List Int) : ∀ k, k ≤ D.length → (∀ j, j < k → dg (D.getD j 0) = true) → k ≤ cnt D := by
  induction D with
  | nil => intro k hk _; simp at hk; omega
  | cons x D ih =>
    intro k hk h
    cases k with
    | zero => omega
    | succ k =>
      have h0 : dg x = true := h 0 (by omega)
      have h1 := ih k (by simpa using hk) (fun j hj => h (j + 1) (by omega))
      unfold cnt at h1 ⊢
      rw [List.takeWhile_cons_of_pos h0, List.length_cons]
      omega
theorem cnt_le (D : List Int) : ∀ k, k < D.length → dg (D.getD k 0) = false → cnt D ≤ k := by
  induction D with
  | nil => intro k hk _; simp at hk
  | cons x D ih =>
    intro k hk h
    unfold cnt
    by_cases hx : dg x = true
    · rw [List.takeWhile_cons_of_pos hx, List.length_cons]
      cases k with
      | zero => have h' : dg x = false := h; rw [hx] at h'; cases h'
      | succ k =>
        have := ih k (by simpa using hk) h
        unfold cnt at this
        omega
    · rw [List.takeWhile_cons_of_neg hx]; simp
theorem cnt_len (D : List Int) : cnt D ≤ D.length := by
  unfold cnt; exact (List.takeWhile_sublist _).length_le

theorem no_18 (D : List Int) (h : 18 < cnt D) : okLine D = false := by
  unfold okLine; apply decide_eq_false; rintro ⟨h1, _⟩; omega
theorem no_end (D : List Int) (h : cnt D = D.length) : okLine D = false := by
  unfold okLine; apply decide_eq_false; rintro ⟨_, _, _, h1, _⟩; omega
theorem no_cr (D : List Int) (k : Nat) (hc : cnt D = k) (h : D.getD k 0 ≠ 13 ∨ k = 0 ∨ k + 1 = D.length ∨ D.getD (k + 1) 0 ≠ 10 ∨ (D.getD 0 0 = 48 ∧ 1 < k)) : okLine D = false := by
  unfold okLine; rw [hc]; apply decide_eq_false; rintro ⟨_, h1, h2, h3, h4, h5⟩
  rcases h with h | h | h | h | h
  · exact h h1
  · exact h2 h
  · omega
  · exact h h4
  · exact h5 h
theorem yes_line (D : List Int) (k : Nat) (hc : cnt D = k) (h18 : k ≤ 18) (h1 : D.getD k 0 = 13) (h2 : k ≠ 0) (h3 : k + 1 < D.length) (h4 : D.getD (k + 1) 0 = 10) (h5 : ¬ (D.getD 0 0 = 48 ∧ 1 < k)) : okLine D = true := by
  unfold okLine; rw [hc]; exact decide_eq_true ⟨h18, h1, h2, h3, h4, h5⟩

theorem val_take_succ (D : List Int) (k : Nat) (h : k < D.length) : val (D.take (k + 1)) = val (D.take k) * 10 + (D.getD k 0 - 48) := by
  rw [List.take_succ_eq_append_getElem h, val_snoc]
  simp [h]
theorem val_bd (D : List Int) : ∀ k, k ≤ D.length → (∀ j, j < k → dg (D.getD j 0) = true) → 0 ≤ val (D.take k) ∧ val (D.take k) < ((10 ^ k : Nat) : Int) := by
  intro k
  induction k with
  | zero => intro _ _; rw [List.take_zero]; simp [val]
  | succ k ih =>
    intro hk h
    have h1 := ih (by omega) (fun j hj => h j (by omega))
    have h2 := h k (by omega)
    simp [dg] at h2
    rw [val_take_succ D k (by omega), Nat.pow_succ]
    simp only [List.getD_eq_getElem?_getD] at *
    omega

/-- A Reader at block b whose buffer is v, of L bytes, nothing read yet. -/
structure Rdr (w : World) (b : Nat) (v : Value) (L : Nat) : Prop where
  lt : b < w.heap.size
  c2 : w.cell? ⟨b, 2, none⟩ = some v
  c3 : w.cell? ⟨b, 3, none⟩ = some (.int .i64 0)
  c4 : w.cell? ⟨b, 4, none⟩ = some (.int .i64 L)
  c6 : w.cell? ⟨b, 6, none⟩ = some (.int .i64 (-1))

theorem Rdr.below {w w' : World} {b L : Nat} {v : Value} (h : Rdr w b v L) (hb : Below w.heap.size w w') : Rdr w' b v L :=
  ⟨Nat.lt_of_lt_of_le h.lt hb.size, (hb.cell (p := ⟨b, 2, none⟩) h.lt).trans h.c2, (hb.cell (p := ⟨b, 3, none⟩) h.lt).trans h.c3, (hb.cell (p := ⟨b, 4, none⟩) h.lt).trans h.c4, (hb.cell (p := ⟨b, 6, none⟩) h.lt).trans h.c6⟩

set_option maxHeartbeats 400000 in
theorem reader_any (a : Option Addr) (L c : Nat) (w : World) :
    Calls Tryd.prog 21 #[.slice a L c] w fun e w' => e = .returned (.pointer (some ⟨w.heap.size, 0, none⟩)) ∧ Rdr w' w.heap.size (.slice a L c) L ∧ Below w.heap.size w w' := by
  go_enter Tryd.func21, Tryd.ntmps21
  go_wp2
  go_ret
  refine ⟨rfl, ?_, (Below.refl _ _).alloc (Nat.le_refl _) _⟩
  constructor <;> simp

theorem Hid.intro' {p : Prop} (h : p) : Hid p := h

/-- What shortIntAt answers for the digits D of the line at p. -/
def shortRes (D : List Int) (p : Nat) : Value :=
  if okLine D = true then .tuple #[.int .i64 (val (D.take (cnt D))), .int .i64 ((p + 1 + cnt D + 2 : Nat) : Int), .bool true] else .tuple #[.int .i64 0, .int .i64 0, .bool false]

set_option maxHeartbeats 400000 in
theorem short_end (b : Nat) (a : Option Addr) (L c : Nat) (B : List Int) (w : World) (hR : Rdr w b (.slice a L c) L) (hL : B.length = L) (hc : L ≤ c) (hm : L ≤ 4194304) (p : Nat) (hp : p + 1 = L) (ha : a = none → c = 0) :
    Calls Tryd.prog 34 #[.pointer (some ⟨b, 0, none⟩), .int .i64 p] w fun e w' => e = .returned (shortRes (B.drop (p + 1)) p) ∧ Below w.heap.size w w' := by
  have E : Hid (shortRes (B.drop (p + 1)) p = .tuple #[.int .i64 0, .int .i64 0, .bool false]) := by
    unfold Hid shortRes
    rw [List.drop_of_length_le (by omega)]
    rfl
  obtain ⟨lt, c2, c3, c4, c6⟩ := hR
  clear hL
  cases a with
  | none => have := ha rfl; omega
  | some x =>
    obtain ⟨g, o, s⟩ := x
    have j1 : (0 : Int) ≤ (p : Int) + 1 := by omega
    have j2 : (p : Int) + 1 ≤ (L : Int) := by omega
    have j3 : (L : Int) ≤ (c : Int) := by omega
    have j4 : ((p : Int) + 1).toNat = L := by omega
    by_cases hcc : c = L
    all_goals
      go_enter Tryd.func34, Tryd.ntmps34
      go_wp2
      go_region
      all_goals
        go_wp2
        refine wp_loop_rounds 1 ?_
        rw [rounds_succ]
        go_wp2
        go_ret3
        exact ⟨by rw [E.out]; rfl, (Below.refl _ _).drew⟩

set_option maxHeartbeats 2000000 in
theorem short_any (b g o L c : Nat) (B : List Int) (w : World) (hR : Rdr w b (.slice (some ⟨g, o, none⟩) L c) L) (hL : B.length = L) (hc : L ≤ c) (hm : L ≤ 4194304) (hcell : ∀ j, j < L → w.cell? ⟨g, o + j, none⟩ = some (.int .u8 (B.getD j 0))) (p : Nat) (hp : p + 1 < L) :
    Calls Tryd.prog 34 #[.pointer (some ⟨b, 0, none⟩), .int .i64 p] w fun e w' => e = .returned (shortRes (B.drop (p + 1)) p) ∧ Below w.heap.size w w' := by
  obtain ⟨D, hD⟩ : ∃ D, B.drop (p + 1) = D := ⟨_, rfl⟩
  rw [hD]
  obtain ⟨m, hmm⟩ : ∃ m, L = p + 1 + m := ⟨L - (p + 1), by omega⟩
  have hDl : D.length = m := by rw [← hD, List.length_drop]; omega
  have hcD : ∀ j, j < m → w.cell? ⟨g, o + (p + 1) + j, none⟩ = some (.int .u8 (D.getD j 0)) := by
    intro j hj
    rw [Nat.add_assoc, hcell (p + 1 + j) (by omega), ← hD, getD_drop]
  have HC : Hid (∀ j, j < m → w.cell? ⟨g, o + (p + 1) + j, none⟩ = some (.int .u8 (D.getD j 0))) := hcD
  have HL : Hid (D.length = m) := hDl
  have Eno : okLine D = false → shortRes D p = .tuple #[.int .i64 0, .int .i64 0, .bool false] := by
    intro h; unfold shortRes; rw [h]; rfl
  have Eyes : ∀ k, cnt D = k → okLine D = true → shortRes D p = .tuple #[.int .i64 (val (D.take k)), .int .i64 ((p + 1 + k + 2 : Nat) : Int), .bool true] := by
    intro k hk h; unfold shortRes; rw [h, hk]; rfl
  have ENO := Hid.intro' Eno
  have EYES := Hid.intro' Eyes
  obtain ⟨lt, c2, c3, c4, c6⟩ := hR
  clear hL hcell hD hDl hcD Eno Eyes
  have j1 : (0 : Int) ≤ (p : Int) + 1 := by omega
  have j2 : (p : Int) + 1 ≤ (L : Int) := by omega
  have j3 : (L : Int) ≤ (c : Int) := by omega
  have j4 : ((p : Int) + 1).toNat = p + 1 := by omega
  have j5 : L - (p + 1) = m := by omega
  have j6 : ¬ c = p + 1 := by omega
  subst hmm
  go_enter Tryd.func34, Tryd.ntmps34
  go_wp2
  go_region
  go_wp2
  rw [Nat.add_sub_cancel_left]
  have hm2 : m ≤ 4194304 := by omega
  have hp2 : p ≤ 4194304 := by omega
  clear j5 hm hp hc
  go_loop [8, 24] (fun n i => ∃ k : Nat, k ≤ m ∧ k ≤ 18 ∧ i = .int .i64 k ∧ n = .int .i64 (val (D.take k)) ∧ Hid (∀ j, j < k → dg (D.getD j 0) = true)) (fun _ i => m - (intOf i).toNat)
  case atStart => exact ⟨0, by omega, by omega, rfl, rfl, fun j hj => by omega⟩
  case round =>
    obtain ⟨k, hk, h18, rfl, rfl, HK⟩ := hrel
    by_cases hlt : k < m
    · have hck := HC.out k hlt
      obtain ⟨x, hx⟩ : ∃ x, D.getD k 0 = x := ⟨_, rfl⟩
      rw [hx] at hck
      have HX : Hid (D.getD k 0 = x) := hx
      have hkl : k < D.length := by rw [HL.out]; exact hlt
      by_cases hdig : 48 ≤ x ∧ x ≤ 57 ∧ k < 18
      · obtain ⟨x1, x2, x3⟩ := hdig
        have hv := val_bd D k (by omega) HK.out
        have hp17 : ((10 ^ k : Nat) : Int) ≤ 100000000000000000 := by
          have : 10 ^ k ≤ 10 ^ 17 := Nat.pow_le_pow_right (by decide) (by omega)
          omega
        have HV : Hid (val (D.take (k + 1)) = val (D.take k) * 10 + (x - 48)) := by
          unfold Hid; rw [val_take_succ D k hkl, hx]
        obtain ⟨V, hV⟩ : ∃ V, val (D.take k) = V := ⟨_, rfl⟩
        rw [hV] at hv HV ⊢
        obtain ⟨v1, v2⟩ := hv
        have v3 : V ≤ 100000000000000000 := by omega
        clear v2 hp17 hV hx hkl
        have x4 : (k : Int) < 18 := by omega
        go_wp2
        go_round
        case rel =>
          refine ⟨k + 1, by omega, by omega, by go_num, by rw [HV.out], fun j hj => ?_⟩
          by_cases e : j = k
          · subst e; rw [HX.out]; simp [dg]; omega
          · exact HK.out j (by omega)
        case measure => simp [intOf]; omega
      · -- the line's digits end here, or there are too many
        have HN : Hid (¬ (48 ≤ x ∧ x ≤ 57 ∧ k < 18)) := hdig
        clear hdig hx
        have hcnt : Hid (x = 13 → cnt D = k) := by
          intro h13
          have h1 := cnt_ge D k (by omega) HK.out
          have h2 := cnt_le D k hkl (by rw [HX.out, h13]; rfl)
          omega
        by_cases h13 : x = 13
        · have HCN : Hid (cnt D = k) := hcnt.out h13
          have HX13 : Hid (D.getD k 0 = 13) := by unfold Hid; rw [HX.out]; exact h13
          subst h13
          clear hcnt HN
          by_cases hk0 : k = 0
          · have E : Hid (shortRes D p = .tuple #[.int .i64 0, .int .i64 0, .bool false]) := ENO.out (no_cr D k HCN.out (.inr (.inl hk0)))
            have b0 : ((k : Int) == 0) = true := by simp; omega
            clear hk0
            go_wp2
            go_ret3
            exact ⟨by rw [E.out]; rfl, (Below.refl _ _).drew⟩
          · have b0 : ((k : Int) == 0) = false := by simp; omega
            by_cases hk1 : k + 1 = m
            · have E : Hid (shortRes D p = .tuple #[.int .i64 0, .int .i64 0, .bool false]) := ENO.out (no_cr D k HCN.out (.inr (.inr (.inl (by rw [HL.out]; exact hk1)))))
              have b1 : ((k : Int) + 1 == (m : Int)) = true := by simp; omega
              clear hk1
              go_wp2
              go_ret3
              exact ⟨by rw [E.out]; rfl, (Below.refl _ _).drew⟩
            · have b1 : ((k : Int) + 1 == (m : Int)) = false := by simp; omega
              have hc1 := HC.out (k + 1) (by omega)
              obtain ⟨y, hy⟩ : ∃ y, D.getD (k + 1) 0 = y := ⟨_, rfl⟩
              rw [hy] at hc1
              have HY : Hid (D.getD (k + 1) 0 = y) := hy
              clear hy
              have q1 : (0 : Int) ≤ (k : Int) + 1 := by omega
              have q2 : (k : Int) + 1 < (m : Int) := by omega
              have q3 : ((k : Int) + 1).toNat = k + 1 := by omega
              by_cases hy10 : y = 10
              · subst hy10
                have hc0 := HC.out 0 (by omega)
                rw [Nat.add_zero] at hc0
                obtain ⟨z, hz⟩ : ∃ z, D.getD 0 0 = z := ⟨_, rfl⟩
                rw [hz] at hc0
                have HZ : Hid (D.getD 0 0 = z) := hz
                clear hz
                by_cases hlead : z = 48 ∧ 1 < k
                · have E : Hid (shortRes D p = .tuple #[.int .i64 0, .int .i64 0, .bool false]) := ENO.out (no_cr D k HCN.out (.inr (.inr (.inr (.inr ⟨by rw [HZ.out]; exact hlead.1, hlead.2⟩)))))
                  obtain ⟨z1, z2⟩ := hlead
                  subst z1
                  have z3 : (1 : Int) < (k : Int) := by omega
                  go_wp2
                  go_ret3
                  exact ⟨by rw [E.out]; rfl, (Below.refl _ _).drew⟩
                · have E : Hid (shortRes D p = .tuple #[.int .i64 (val (D.take k)), .int .i64 ((p + 1 + k + 2 : Nat) : Int), .bool true]) :=
                    EYES.out k HCN.out (yes_line D k HCN.out h18 HX13.out hk0 (by rw [HL.out]; omega) HY.out (by rw [HZ.out]; exact hlead))
                  have e2 : ((p + 1 + k + 2 : Nat) : Int) = (p : Int) + 1 + (k : Int) + 2 := by omega
                  rw [e2] at E
                  clear e2
                  by_cases z1 : z = 48
                  · subst z1
                    have z3 : ¬ (1 : Int) < (k : Int) := by omega
                    clear hlead
                    go_wp2
                    go_ret3
                    exact ⟨by rw [E.out]; rfl, (Below.refl _ _).drew⟩
                  · have z2 : (z == 48) = false := by simp [z1]
                    clear hlead z1
                    go_wp2
                    go_ret3
                    exact ⟨by rw [E.out]; rfl, (Below.refl _ _).drew⟩
              · have E : Hid (shortRes D p = .tuple #[.int .i64 0, .int .i64 0, .bool false]) := ENO.out (no_cr D k HCN.out (.inr (.inr (.inr (.inl (by rw [HY.out]; exact hy10))))))
                have y1 : (y != 10) = true := by simp [hy10]
                clear hy10
                go_wp2
                go_ret3
                exact ⟨by rw [E.out]; rfl, (Below.refl _ _).drew⟩
        · have E : Hid (shortRes D p = .tuple #[.int .i64 0, .int .i64 0, .bool false]) := by
            apply ENO.out
            by_cases hd : dg x = true
            · have h2 : k = 18 := by
                have := HN.out; simp [dg] at hd; omega
              apply no_18
              have := cnt_ge D (k + 1) (by omega) (by
                intro j hj
                by_cases e : j = k
                · subst e; rw [HX.out]; exact hd
                · exact HK.out j (by omega))
              omega
            · have h1 := cnt_ge D k (by omega) HK.out
              have h2 := cnt_le D k hkl (by rw [HX.out]; simpa using hd)
              exact no_cr D k (by omega) (.inl (by rw [HX.out]; exact h13))
          have x1 : (x != 13) = true := by simp [h13]
          by_cases y1 : 48 ≤ x
          · by_cases y2 : x ≤ 57
            · have y3 : ¬ (k : Int) < 18 := by have := HN.out; omega
              clear hcnt h13
              go_wp2
              go_ret3
              exact ⟨by rw [E.out]; rfl, (Below.refl _ _).drew⟩
            · clear hcnt h13
              go_wp2
              go_ret3
              exact ⟨by rw [E.out]; rfl, (Below.refl _ _).drew⟩
          · clear hcnt h13
            go_wp2
            go_ret3
            exact ⟨by rw [E.out]; rfl, (Below.refl _ _).drew⟩
    · have E : Hid (shortRes D p = .tuple #[.int .i64 0, .int .i64 0, .bool false]) := by
        apply ENO.out
        apply no_end
        have h1 := cnt_ge D k (by rw [HL.out]; exact hk) HK.out
        have h2 := cnt_len D
        have h3 := HL.out
        omega
      go_wp2
      go_ret3
      exact ⟨by rw [E.out]; rfl, (Below.refl _ _).drew⟩
end Go.Proofs.Qxb6608909aDoor
