import Derived.Test.Qxb6608909aDoorShort
import Derived.BigQuiet
import Derived.Deep.QuietTactic
namespace Go.Proofs.Qxb6608909aDoor
open Go.RowKit
set_option linter.unusedSimpArgs false
set_option linter.unusedVariables false

theorem short_all (b g o L c : Nat) (B : List Int) (w : World) (hR : Rdr w b (.slice (some ⟨g, o, none⟩) L c) L) (hL : B.length = L) (hc : L ≤ c) (hm : L ≤ 4194304) (hcell : ∀ j, j < L → w.cell? ⟨g, o + j, none⟩ = some (.int .u8 (B.getD j 0))) (p : Nat) (hp : p < L) :
    Calls Tryd.prog 34 #[.pointer (some ⟨b, 0, none⟩), .int .i64 p] w fun e w' => e = .returned (shortRes (B.drop (p + 1)) p) ∧ Below w.heap.size w w' := by
  by_cases h : p + 1 = L
  · exact short_end b _ L c B w hR hL hc hm p h (by intro e; cases e)
  · exact short_any b g o L c B w hR hL hc hm hcell p (by omega)

theorem short_first (b g o L c : Nat) (B : List Int) (w : World) (hR : Rdr w b (.slice (some ⟨g, o, none⟩) L c) L) (hL : B.length = L) (hc : L ≤ c) (hm : L ≤ 4194304) (hcell : ∀ j, j < L → w.cell? ⟨g, o + j, none⟩ = some (.int .u8 (B.getD j 0))) (hp : 0 < L) :
    Calls Tryd.prog 34 #[.pointer (some ⟨b, 0, none⟩), .int .i64 0] w fun e w' => e = .returned (shortRes (B.drop 1) 0) ∧ Below w.heap.size w w' :=
  short_all b g o L c B w hR hL hc hm hcell 0 hp

/-- What PeekKey hands back. -/
def Peeked (w : World) (B : List Int) (r : Value) : Prop :=
  match peek B with
  | none => r = .slice none 0 0
  | some x => (∃ ad cc, r = .slice (some ad) x.2 cc) ∧ Sl w r ((B.drop x.1).take x.2)
theorem peeked_none {w : World} {B : List Int} (h : peek B = none) : Peeked w B (.slice none 0 0) := by unfold Peeked; rw [h]
theorem peeked_some {w : World} {B : List Int} {r : Value} {x : Nat × Nat} (h : peek B = some x) (h1 : ∃ ad cc, r = .slice (some ad) x.2 cc) (h2 : Sl w r ((B.drop x.1).take x.2)) : Peeked w B r := by unfold Peeked; rw [h]; exact ⟨h1, h2⟩

theorem peek_closed {B : List Int} (h : opens B = false) : peek B = none := by unfold peek; rw [h]; rfl
theorem peek_one_none {B : List Int} (h : item B (cnt (B.drop 1) + 3) = none) : peek B = none := by
  unfold peek; rw [h]; split <;> rfl
theorem peek_two {B : List Int} (ho : opens B = true) {x : Nat × Nat} (h : item B (cnt (B.drop 1) + 3) = some x) : peek B = item B (x.1 + x.2 + 2) := by
  unfold peek; rw [ho, h]; rfl

theorem item_far {B : List Int} {p : Nat} (h : ¬ p < B.length) : item B p = none := by unfold item; rw [if_neg]; rintro ⟨h1, _⟩; exact h h1
theorem item_mark {B : List Int} {p : Nat} (h : B.getD p 0 ≠ 36) : item B p = none := by unfold item; rw [if_neg]; rintro ⟨_, h1, _⟩; exact h h1
theorem item_line {B : List Int} {p : Nat} (h : okLine (B.drop (p + 1)) = false) : item B p = none := by unfold item; rw [if_neg]; rintro ⟨_, _, h1, _⟩; rw [h] at h1; cases h1
theorem item_long {B : List Int} {p : Nat} (h : ¬ val ((B.drop (p + 1)).take (cnt (B.drop (p + 1)))) ≤ (B.length : Int) - ((p + 1 + cnt (B.drop (p + 1)) + 2 : Nat) : Int)) : item B p = none := by unfold item; rw [if_neg]; rintro ⟨_, _, _, h1⟩; exact h h1
theorem item_yes {B : List Int} {p : Nat} (h1 : p < B.length) (h2 : B.getD p 0 = 36) (h3 : okLine (B.drop (p + 1)) = true) (h4 : val ((B.drop (p + 1)).take (cnt (B.drop (p + 1)))) ≤ (B.length : Int) - ((p + 1 + cnt (B.drop (p + 1)) + 2 : Nat) : Int)) :
    item B p = some (p + 1 + cnt (B.drop (p + 1)) + 2, (val ((B.drop (p + 1)).take (cnt (B.drop (p + 1))))).toNat) := by unfold item; rw [if_pos ⟨h1, h2, h3, h4⟩]

theorem ok_facts {D : List Int} (h : okLine D = true) : cnt D + 2 ≤ D.length ∧ 0 ≤ val (D.take (cnt D)) ∧ val (D.take (cnt D)) ≤ 1000000000000000000 := by
  unfold okLine at h
  rw [decide_eq_true_iff] at h
  obtain ⟨h1, h2, h3, h4, h5, h6⟩ := h
  refine ⟨by omega, ?_⟩
  have hall : ∀ j, j < cnt D → dg (D.getD j 0) = true := by
    intro j hj
    refine Classical.byContradiction fun hn => ?_
    have := cnt_le D j (by omega) (by simpa using hn)
    omega
  have hv := val_bd D (cnt D) (by omega) hall
  have hp : 10 ^ cnt D ≤ 10 ^ 18 := Nat.pow_le_pow_right (by decide) h1
  refine ⟨hv.1, ?_⟩
  omega

theorem shortRes_no {D : List Int} {p : Nat} (h : okLine D = false) : shortRes D p = .tuple #[.int .i64 0, .int .i64 0, .bool false] := by unfold shortRes; rw [h]; rfl
theorem shortRes_yes {D : List Int} {p : Nat} (h : okLine D = true) : shortRes D p = .tuple #[.int .i64 (val (D.take (cnt D))), .int .i64 ((p + 1 + cnt D + 2 : Nat) : Int), .bool true] := by unfold shortRes; rw [h]; rfl

set_option maxHeartbeats 400000 in
theorem peek_empty (b : Nat) (a : Option Addr) (c : Nat) (w : World) (hR : Rdr w b (.slice a 0 c) 0) :
    Calls Tryd.prog 22 #[.pointer (some ⟨b, 0, none⟩)] w fun e w' => ∃ r, e = .returned r ∧ Peeked w' [] r ∧ Below w.heap.size w w' := by
  have PN : Hid (peek [] = none) := rfl
  have BB : Below w.heap.size w w.drew := (Below.refl _ _).drew
  obtain ⟨lt, c2, c3, c4, c6⟩ := hR
  go_enter Tryd.func22, Tryd.ntmps22
  go_wp2
  go_region
  all_goals
    go_wp2
    go_ret
    exact ⟨_, rfl, peeked_none PN.out, BB⟩

set_option maxHeartbeats 2000000 in
theorem peek_full (b g o L c : Nat) (B : List Int) (w : World) (hR : Rdr w b (.slice (some ⟨g, o, none⟩) L c) L) (hL : B.length = L) (hc : L ≤ c) (hm : L ≤ 4194304) (hg : g < w.heap.size) (hcell : ∀ j, j < L → w.cell? ⟨g, o + j, none⟩ = some (.int .u8 (B.getD j 0))) (h0 : 0 < L) :
    Calls Tryd.prog 22 #[.pointer (some ⟨b, 0, none⟩)] w fun e w' => ∃ r, e = .returned r ∧ Peeked w' B r ∧ Below w.heap.size w w' := by
  have HR : Hid (Rdr w b (.slice (some ⟨g, o, none⟩) L c) L) := hR
  have HL : Hid (B.length = L) := hL
  have HC : Hid (∀ j, j < L → w.cell? ⟨g, o + j, none⟩ = some (.int .u8 (B.getD j 0))) := hcell
  have hx0 := hcell 0 h0
  rw [Nat.add_zero] at hx0
  obtain ⟨x, hx⟩ : ∃ x, B.getD 0 0 = x := ⟨_, rfl⟩
  rw [hx] at hx0
  have HX : Hid (B.getD 0 0 = x) := hx
  obtain ⟨lt, c2, c3, c4, c6⟩ := hR
  clear hL hcell hx
  have n1 : ((0 : Int) == (L : Int)) = false := by simp; omega
  have i1 : (0 : Int) < (L : Int) := by omega
  have BB : Below w.heap.size w w.drew := (Below.refl _ _).drew
  by_cases h42 : x = 42
  · subst h42
    have RD : Hid (Rdr w.drew b (.slice (some ⟨g, o, none⟩) L c) L) := HR.out.below BB
    have CD : Hid (∀ j, j < L → w.drew.cell? ⟨g, o + j, none⟩ = some (.int .u8 (B.getD j 0))) := HC.out
    have HDl : Hid ((B.drop 1).length + 1 = L) := by unfold Hid; rw [List.length_drop, HL.out]; omega
    go_enter Tryd.func22, Tryd.ntmps22
    go_wp2
    go_quiet (fail)
    have BQ : Below w.heap.size w (w.drewN nq) := below_drewN (Below.refl _ _) nq
    go_wp2_with fail
    refine (short_first b g o L c B (w.drewN nq) (HR.out.below BQ) HL.out hc hm HC.out h0).mono ?_
    rintro e w1 ⟨rfl, hb1⟩
    have B1 : Below w.heap.size w w1 := BQ.trans hb1
    clear hb1 BQ BB c2 c3 c4 c6 hx0
    cases hok : okLine (B.drop 1) with
    | false =>
      have PN : Hid (peek B = none) := peek_closed (by unfold opens; apply decide_eq_false; rintro ⟨_, _, h, _⟩; rw [hok] at h; cases h)
      rw [shortRes_no hok]
      clear hok
      go_wp2
      go_ret
      exact ⟨_, rfl, peeked_none PN.out, B1⟩
    | true =>
      rw [shortRes_yes hok]
      obtain ⟨f1, f2, f3⟩ := ok_facts hok
      obtain ⟨q, hq⟩ : ∃ q, cnt (B.drop 1) = q := ⟨_, rfl⟩
      obtain ⟨n, hn⟩ : ∃ n, val ((B.drop 1).take (cnt (B.drop 1))) = n := ⟨_, rfl⟩
      have HOP : Hid (opens B = decide (2 ≤ n)) := by
        unfold Hid opens
        rw [hok, HX.out, hn]
        by_cases h2 : 2 ≤ n
        · rw [decide_eq_true h2]; exact decide_eq_true ⟨by rw [HL.out]; omega, rfl, rfl, h2⟩
        · rw [decide_eq_false h2]; apply decide_eq_false; rintro ⟨_, _, _, h⟩; exact h2 h
      rw [hn] at f2 f3 ⊢
      rw [hq] at f1 ⊢
      have HQ : Hid (cnt (B.drop 1) = q) := hq
      have hql : q + 3 ≤ L := by have := HDl.out; omega
      clear hok hn hq f1 HDl
      have e3 : ((0 + 1 + q + 2 : Nat) : Int) = (q : Int) + 3 := by omega
      rw [e3]
      clear e3
      by_cases hn2 : n < 2
      · have PN : Hid (peek B = none) := peek_closed (by rw [HOP.out]; exact decide_eq_false (by omega))
        go_wp2
        go_ret
        exact ⟨_, rfl, peeked_none PN.out, B1⟩
      · have OP : Hid (opens B = true) := by unfold Hid; rw [HOP.out]; exact decide_eq_true (by omega)
        clear HOP
        go_wp2_with fail
        go_loopw [4, 6] (fun v t wr => ∃ p k : Nat, v = .int .i64 p ∧ t = .int .i64 k ∧ p ≤ 16777216 ∧ k ≤ 1 ∧ Below w.heap.size w wr ∧ Hid ((k = 0 ∧ p = q + 3) ∨ (k = 1 ∧ ∃ y, item B (q + 3) = some y ∧ p = y.1 + y.2 + 2))) (fun _ t _ => 1 - (intOf t).toNat)
        case atStart => exact ⟨q + 3, 0, by go_num, rfl, by omega, by omega, B1, .inl ⟨rfl, rfl⟩⟩
        case round =>
          clear B1
          obtain ⟨p, k, rfl, rfl, hp, hk, B2, HREL⟩ := hrel
          have NIL : Hid (item B p = none → peek B = none) := by
            intro h
            rcases HREL.out with ⟨_, rfl⟩ | ⟨_, y, hy, rfl⟩
            · exact peek_one_none (by rw [HQ.out]; exact h)
            · rw [peek_two OP.out (x := y) (by rw [HQ.out]; exact hy)]; exact h
          have R2 := HR.out.below B2
          have C2 : Hid (∀ j, j < L → wr.cell? ⟨g, o + j, none⟩ = some (.int .u8 (B.getD j 0))) := fun j hj => (B2.cell (p := ⟨g, o + j, none⟩) hg).trans (HC.out j hj)
          obtain ⟨lt2, d2, d3, d4, d6⟩ := id R2
          have HR2 : Hid (Rdr wr b (.slice (some ⟨g, o, none⟩) L c) L) := R2
          clear R2
          by_cases hpl : p < L
          · have hcp := C2.out p hpl
            obtain ⟨y, hy⟩ : ∃ y, B.getD p 0 = y := ⟨_, rfl⟩
            rw [hy] at hcp
            have HY : Hid (B.getD p 0 = y) := hy
            clear hy
            have p1 : (p : Int) < (L : Int) := by omega
            have p2 : (0 : Int) ≤ (p : Int) := by omega
            by_cases h36 : y = 36
            · subst h36
              have HDp : Hid ((B.drop (p + 1)).length + (p + 1) = L) := by unfold Hid; rw [List.length_drop, HL.out]; omega
              go_wp2_with fail
              refine (short_all b g o L c B wr HR2.out HL.out hc hm C2.out p hpl).mono ?_
              rintro e w3 ⟨rfl, hb3⟩
              have B3 : Below w.heap.size w w3 := B2.trans (hb3.mono B2.size)
              have R3 := HR2.out.below hb3
              clear d2 d3 d4 d6 hcp lt2
              obtain ⟨lt2, d2, d3, d4, d6⟩ := id R3
              clear R3 hb3
              cases hok : okLine (B.drop (p + 1)) with
              | false =>
                have PN : Hid (peek B = none) := NIL.out (item_line hok)
                rw [shortRes_no hok]
                clear hok
                go_wp2
                go_ret
                exact ⟨_, rfl, peeked_none PN.out, B3⟩
              | true =>
                rw [shortRes_yes hok]
                obtain ⟨f1, f2, f3⟩ := ok_facts hok
                have HLONG := fun h => item_long (B := B) (p := p) h
                have HYES := fun h => item_yes (B := B) (p := p) (by rw [HL.out]; exact hpl) HY.out hok h
                obtain ⟨r, hr⟩ : ∃ r, cnt (B.drop (p + 1)) = r := ⟨_, rfl⟩
                obtain ⟨m, hmm⟩ : ∃ m, val ((B.drop (p + 1)).take (cnt (B.drop (p + 1)))) = m := ⟨_, rfl⟩
                rw [hmm, hr, HL.out] at HLONG HYES
                rw [hmm] at f2 f3 ⊢
                rw [hr] at f1 ⊢
                have HLG := Hid.intro' HLONG
                have HYS := Hid.intro' HYES
                have hst : p + 1 + r + 2 ≤ L := by have := HDp.out; omega
                clear hok hr hmm HLONG HYES f1 HDp
                have e3 : ((p + 1 + r + 2 : Nat) : Int) = (p : Int) + 1 + (r : Int) + 2 := by omega
                obtain ⟨st, hs⟩ : ∃ st, p + 1 + r + 2 = st := ⟨_, rfl⟩
                rw [hs] at HLG HYS hst ⊢
                clear e3 hs
                by_cases hbig : m ≤ (L : Int) - (st : Int)
                · obtain ⟨s, rfl⟩ := Int.eq_ofNat_of_zero_le f2
                  have YS : Hid (item B p = some (st, s)) := by
                    have := HYS.out hbig
                    rw [Int.toNat_natCast] at this
                    exact this
                  clear HLG HYS
                  have hsl : st + s ≤ L := by omega
                  by_cases hk1 : k = 1
                  · have PS : Hid (peek B = some (st, s)) := by
                      rcases HREL.out with ⟨h, _⟩ | ⟨_, y, hy, hpp⟩
                      · omega
                      · unfold Hid; rw [peek_two OP.out (x := y) (by rw [HQ.out]; exact hy), ← hpp]; exact YS.out
                    have C3 : ∀ j, j < L → w3.cell? ⟨g, o + j, none⟩ = some (.int .u8 (B.getD j 0)) := fun j hj => (B3.cell (p := ⟨g, o + j, none⟩) hg).trans (HC.out j hj)
                    have SL : ∀ cc, s ≤ cc → Hid (Sl w3 (.slice (some ⟨g, o + st, none⟩) s cc) ((B.drop st).take s)) := by
                      intro cc hcc
                      have hlen : ((B.drop st).take s).length = s := by rw [List.length_take, List.length_drop, HL.out]; omega
                      refine ⟨_, cc, by rw [hlen], .inr ⟨g, o + st, rfl, by have := B3.size; omega, fun j hj => ?_⟩, (fun e => by cases e), by rw [hlen]; exact hcc⟩
                      rw [hlen] at hj
                      rw [getD_take hj, getD_drop, Nat.add_assoc]
                      exact C3 (st + j) (by omega)
                    clear C3
                    have b1 : ((k : Int) == 1) = true := by simp; omega
                    have g1 : (0 : Int) ≤ (st : Int) := by omega
                    have g2 : (st : Int) ≤ (st : Int) + (s : Int) := by omega
                    have g3 : (st : Int) + (s : Int) ≤ (c : Int) := by omega
                    have g4 : ((st : Int) + (s : Int)).toNat = st + s := by omega
                    by_cases hcs : c = st
                    · have hs0 : s = 0 := by omega
                      subst hs0
                      have SE : ∀ ad cc, Hid (Sl w3 (.slice (some ad) 0 cc) ((B.drop st).take 0)) := fun ad cc => ⟨_, cc, rfl, .inl rfl, (fun e => by cases e), Nat.zero_le _⟩
                      clear SL
                      go_wp2
                      go_ret
                      exact ⟨_, rfl, peeked_some PS.out ⟨_, _, rfl⟩ (SE _ _).out, B3⟩
                    · go_wp2
                      go_ret
                      exact ⟨_, rfl, peeked_some PS.out ⟨_, _, rfl⟩ (SL (c - st) (by omega)).out, B3⟩
                  · have b1 : ((k : Int) == 1) = false := by simp; omega
                    have NX : Hid (item B (q + 3) = some (st, s)) := by
                      rcases HREL.out with ⟨_, hpp⟩ | ⟨h, _⟩
                      · unfold Hid; rw [← hpp]; exact YS.out
                      · omega
                    go_wp2
                    go_roundw
                    case rel => exact ⟨st + s + 2, k + 1, by go_num, by go_num, by omega, by omega, B3, .inr ⟨by omega, (st, s), NX.out, rfl⟩⟩
                    case measure => simp [intOf]; omega
                · have PN : Hid (peek B = none) := NIL.out (HLG.out hbig)
                  go_wp2
                  go_ret
                  exact ⟨_, rfl, peeked_none PN.out, B3⟩
            · have PN : Hid (peek B = none) := NIL.out (item_mark (by rw [HY.out]; exact h36))
              have m1 : (y != 36) = true := by simp [h36]
              clear h36
              go_wp2
              go_ret
              exact ⟨_, rfl, peeked_none PN.out, B2⟩
          · have PN : Hid (peek B = none) := NIL.out (item_far (by rw [HL.out]; exact hpl))
            go_wp2
            go_ret
            exact ⟨_, rfl, peeked_none PN.out, B2⟩
  · have m1 : (x != 42) = true := by simp [h42]
    have PN : Hid (peek B = none) := peek_closed (by unfold opens; apply decide_eq_false; rintro ⟨_, h, _⟩; rw [HX.out] at h; exact h42 h)
    clear h42
    go_enter Tryd.func22, Tryd.ntmps22
    go_wp2
    go_quiet (fail)
    go_wp2
    go_ret
    exact ⟨_, rfl, peeked_none PN.out, below_drewN (Below.refl _ _) nq⟩
end Go.Proofs.Qxb6608909aDoor
