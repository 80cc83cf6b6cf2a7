import Derived.Test.Qxb6608909aDoorLaw6
import Derived.Test.Qxb6608909aDoorCat
import Derived.Test.Qxb6608909aDoorTail
namespace Go.Proofs.Qxb6608909aDoor
open Go.RowKit
set_option linter.unusedSimpArgs false
set_option linter.unusedVariables false

theorem Owns.put {w : World} {g M : Nat} {zs : List Int} {c : Int} (h : Owns w g (.slice (some ⟨g, 0, none⟩) M M) zs) (hM : zs.length = M) : Owns (w.setCell ⟨g, 0, none⟩ (.int .u8 c)) g (.slice (some ⟨g, 0, none⟩) M M) (zs.set 0 c) := by
  unfold Owns at h ⊢
  rw [hM] at h
  rw [List.length_set, hM]
  have h2 := (h.stored 0 (.int .u8 c)).1
  have e : (cs8 zs).set 0 (.int .u8 c) = cs8 (zs.set 0 c) := by simp [cs8, List.map_set]
  rw [e] at h2
  exact h2

theorem Owns.room {w : World} {g M : Nat} {zs : List Int} (h : Owns w g (.slice (some ⟨g, 0, none⟩) M M) zs) (hM : zs.length = M) (h0 : 0 < M) : w.frozen? ⟨g, 0, none⟩ = false ∧ ∃ u, w.cell? ⟨g, 0, none⟩ = some u := by
  unfold Owns at h
  rw [hM] at h
  refine ⟨h.frozenAt 0, ?_⟩
  rw [h.cellAt 0 (by omega)]
  exact ⟨_, List.getElem?_eq_getElem (by rw [cs8_length]; omega)⟩

theorem rd_of {w : World} {a : Option Addr} {l c : Nat} {zs : List Int} (h : Sl w (.slice a l c) zs) : Rd w w.heap.size a zs := by
  obtain ⟨a', c', hv, hr, _⟩ := h
  simp only [Value.slice.injEq] at hv
  obtain ⟨rfl, _, _⟩ := hv
  exact hr

theorem cell0 {w : World} {G c l : Nat} {zs : List Int} (h : Sl w (.slice (some ⟨G, 0, none⟩) l c) zs) (h0 : 0 < zs.length) : w.cell? ⟨G, 0, none⟩ = some (.int .u8 (zs.getD 0 0)) := by
  rcases rd_of h with h | ⟨b, o, hx, _, hc⟩
  · rw [h] at h0; simp at h0
  · simp only [Option.some.injEq, Addr.mk.injEq, and_true] at hx
    obtain ⟨rfl, rfl⟩ := hx
    exact hc 0 h0

theorem rd_drop {w : World} {G c l : Nat} {zs : List Int} (h : Sl w (.slice (some ⟨G, 0, none⟩) l c) zs) : Rd w w.heap.size (some ⟨G, 1, none⟩) (zs.drop 1) := by
  rcases rd_of h with h | ⟨b, o, hx, hlt, hc⟩
  · exact .inl (by rw [h]; rfl)
  · simp only [Option.some.injEq, Addr.mk.injEq, and_true] at hx
    obtain ⟨rfl, rfl⟩ := hx
    exact Rd.drop 1 hlt hc

set_option maxRecDepth 20000 in
set_option maxHeartbeats 6000000 in
theorem law7_head (a : Option Addr) (len cap : Nat) (vt : Value) (zt : List Int) (c : Int) (ess : List (List Int)) (w : World) (h : Cells w a len ess) (hst : Sl w vt zt) (hlt : zt.length ≤ maxLen) (ht : Tab w.heap.size w) :
    Calls Tryd.prog 7 #[.slice a len cap, vt, .int .u8 c] w fun e w' => e = .returned (.bool true) ∧ Below w.heap.size w w' := by
  have hm' : len ≤ 9223372036854775807 := by have := h.2.1; unfold maxLen at this; omega
  have hlt' : zt.length ≤ 9223372036854775807 := by unfold maxLen at hlt; omega
  have HH : Hid (Cells w a len ess) := h
  have HST : Hid (Sl w vt zt) := hst
  have HLT : Hid (zt.length ≤ maxLen) := hlt
  obtain ⟨ta, tc, htv, _⟩ := hst
  obtain ⟨lt, hltt⟩ : ∃ lt, zt.length = lt := ⟨_, rfl⟩
  have HLL := Hid.intro' hltt
  rw [hltt] at htv hlt' HLT
  subst htv
  clear h hlt hltt
  go_enter Tryd.func7, Tryd.ntmps7
  go_wp2_with fail
  refine (bytes24 a ta len cap lt tc c ess w HLT.out HH.out).mono ?_
  rintro e w' ⟨b, rfl, hw, hb⟩
  subst hw
  cases b with
  | false =>
    clear hb
    go_wp2
    go_ret
    exact ⟨rfl, Below.refl _ _⟩
  | true =>
    obtain ⟨⟨hl0, hsm⟩, hlt0⟩ := hb rfl
    have HSM : Hid (∀ e ∈ ess, e.length ≤ 1048576) := hsm
    clear hsm hb
    by_cases g1 : 65536 < len
    · have g1' : (65536 : Int) < (len : Int) := by omega
      have g0' : ¬ (1048576 : Int) < (lt : Int) := by omega
      go_wp2
      go_ret
      exact ⟨rfl, Below.refl _ _⟩
    have g0' : ¬ (1048576 : Int) < (lt : Int) := by omega
    by_cases g2 : 1048576 < lt + 24 * len
    · have g2' : (1048576 : Int) < (lt : Int) + 24 * (len : Int) := by omega
      go_wp2
      go_ret
      exact ⟨rfl, Below.refl _ _⟩
    go_wp2
    go_loop [7, 8] (fun t i => ∃ j T : Nat, j ≤ len ∧ i = .int .i64 j ∧ t = .int .i64 T ∧ T ≤ 1048576 ∧ Hid (wireTo ess j + lt + 24 * len ≤ T + 10 + 12 * j)) (fun _ i => len - (intOf i).toNat)
    case atStart =>
      refine ⟨0, lt + 24 * len, by omega, rfl, by go_num, by omega, ?_⟩
      have := num_len7 len (by omega)
      unfold Hid
      rw [wireTo_zero, HH.out.1]
      omega
    case round =>
      obtain ⟨j, T, hj, rfl, rfl, hT, HT⟩ := hrel
      by_cases hltj : j < len
      · obtain ⟨b, o, hx, hbB, hc⟩ : ∃ b o, a = some ⟨b, o, none⟩ ∧ b < w'.heap.size ∧ ∀ j, j < ess.length → ∃ u, w'.cell? ⟨b, o + j, none⟩ = some u ∧ Sl w' u (ess.getD j []) := by
          rcases HH.out.2.2.2 with h | h
          · have := HH.out.1; rw [h] at this; simp at this; omega
          · exact h
        subst hx
        obtain ⟨u, hu1, hu2⟩ := hc j (by rw [HH.out.1]; exact hltj)
        obtain ⟨au, cu, hu3, hu4, hu5, hu6⟩ := hu2
        have hmem := mem_getD' HSM.out j
        obtain ⟨L, hL⟩ : ∃ L, (ess.getD j []).length = L := ⟨_, rfl⟩
        rw [hL] at hu3 hmem
        have HS2 : Hid (wireTo ess (j + 1) + lt + 24 * len ≤ T + L + 10 + 12 * (j + 1)) := by
          have h0 := wireTo_succ ess j (by rw [HH.out.1]; exact hltj)
          rw [hL] at h0
          have h1 := num_len7 L (by omega)
          have h2 := HT.out
          unfold Hid
          omega
        rw [hu3] at hu1
        clear hu3 hu4 hu5 hu6 hc hL
        have i1 : (0 : Int) ≤ (j : Int) := by omega
        have i2 : (j : Int) < (len : Int) := by omega
        by_cases g3 : 1048576 < T + L
        · have g3' : (1048576 : Int) < (T : Int) + (L : Int) := by omega
          go_wp2
          go_ret
          exact ⟨rfl, Below.refl _ _⟩
        · have g3' : ¬ (1048576 : Int) < (T : Int) + (L : Int) := by omega
          go_wp2
          go_round
          case rel => exact ⟨j + 1, T + L, by omega, by go_num, by go_num, by omega, HS2⟩
          case measure => simp [intOf]; omega
      · obtain rfl : len = j := by omega
        have hN : (arr ess).length + lt ≤ 1048586 := by
          have h1 := HT.out
          have h2 := wireTo_all ess
          rw [HH.out.1] at h2
          omega
        obtain ⟨N, hNN⟩ : ∃ N, (arr ess).length = N := ⟨_, rfl⟩
        have HN := Hid.intro' hNN
        rw [hNN] at hN
        clear hNN HT g2 hT
        have HE : Hid (∀ e ∈ ess, e.length ≤ 4194304) := fun e he => Nat.le_trans (HSM.out e he) (by omega)
        have HE9 : Hid (∀ e ∈ ess, e.length ≤ 9999999) := fun e he => Nat.le_trans (HSM.out e he) (by omega)
        have hpos : 3 ≤ N := by have := wireTo_le ess 0; rw [wireTo_zero, HN.out] at this; omega
        obtain ⟨M, hMM⟩ : ∃ M, N + lt = M := ⟨_, rfl⟩
        have HMM := Hid.intro' hMM
        have hM3 : 3 ≤ M := by omega
        have hMb : M ≤ 1048586 := by omega
        clear hMM
        obtain ⟨B, hB⟩ : ∃ B, arr ess ++ zt = B := ⟨_, rfl⟩
        have HB := Hid.intro' hB
        have HBl : Hid (B.length = M) := by unfold Hid; rw [← hB, List.length_append, HN.out, HLL.out]; exact HMM.out
        have HB0 : Hid (B.getD 0 0 = 42) := by unfold Hid; rw [← hB]; exact first42 ess zt
        have HBs : Hid (B.set 0 42 = B) := by unfold Hid; rw [← hB]; exact set_same ess zt
        have HBo : Hid (∀ w r, c ≠ 42 → Peeked w (B.set 0 c) r → r = .slice none 0 0) := by
          intro w r h1 h2; rw [← hB] at h2; exact peeked_other h1 h2
        have HBz : Hid (∀ w r, Peeked w ([] ++ [42, 48] ++ B.drop 1) r → r = .slice none 0 0) := by
          intro w r h2; rw [← hB] at h2; exact peeked_zero h2
        have HBw : Hid (∀ w r, Peeked w B r → if 2 ≤ len then (∃ ad cc, r = .slice (some ad) (ess.getD 1 []).length cc) ∧ Sl w r (ess.getD 1 []) else r = .slice none 0 0) := by
          intro w r h2; rw [← hB] at h2
          have := peeked_whole (by rw [HH.out.1]; omega) HE9.out h2
          rw [HH.out.1] at this
          exact this
        clear hB
        go_wp2_with fail
        refine (cloneAll_any a len cap ess w' HH.out.1 (by omega) HE.out HH.out.2.2.2).mono ?_
        rintro e w1 ⟨a', c', rfl, hs1, hb1⟩
        have HS1 := Hid.intro' hs1
        have H1 := Hid.intro' (HH.out.2.2.2.below hb1)
        have HT1 := Hid.intro' (HST.out.below hb1)
        clear hs1
        have ARR := array_any a len cap ess w1 HH.out.1 (by omega) HE9.out (by rw [HN.out]; omega) H1.out (ht.on hb1).fresh
        have HARR := Hid.intro' ARR
        clear ARR
        by_cases l2 : 2 ≤ len
        · have l2' : (2 : Int) ≤ (len : Int) := by omega
          have i1 : (1 : Int) < (len : Int) := by omega
          have HBw2 : Hid (∀ w r, Peeked w B r → (∃ ad cc, r = .slice (some ad) (ess.getD 1 []).length cc) ∧ Sl w r (ess.getD 1 [])) := by
            intro w r h2
            have := HBw.out w r h2
            rw [if_pos l2] at this
            exact this
          clear HBw
          go_wp2_with fail
          refine HARR.out.mono ?_
          rintro e w2 ⟨v2, rfl, ho2, hb2⟩
          obtain ⟨a2, c2, hv2, hr2, _⟩ := ho2.form
          rw [HN.out] at hv2
          subst hv2
          have CAT := cat2_any a2 ta N c2 lt tc (arr ess) zt w2 HN.out HLL.out (by omega) (by omega) hr2 (rd_of (HT1.out.below hb2))
          rw [HMM.out, HB.out] at CAT
          have HCAT := Hid.intro' CAT
          have HES2 := Hid.intro' (HS1.out.below hb2)
          have hb02 := hb1.trans (hb2.mono hb1.size)
          clear CAT ho2 hr2 HARR
          go_wp2_with fail
          refine HCAT.out.mono ?_
          rintro e w3 ⟨rfl, ho3, hb3⟩
          have hb03 := hb02.trans (hb3.mono hb02.size)
          have hs03 := hb03.size
          have HES : Hid (∀ W, Below w3.heap.size w3 W → Sll W a' ess) := fun W hW => (HES2.out.below hb3).below hW
          have HBUF : Hid (∀ W, Below w3.heap.size w3 W → Sl W (.slice (some ⟨w2.heap.size, 0, none⟩) M M) B) := fun W hW => ho3.sl.below hW
          have hg2 : w2.heap.size < w3.heap.size := by
            rcases ho3.2 with ⟨h, _⟩ | ⟨g, cap, cur, hv, hbg, hg, _⟩
            · cases h
            · simp only [Value.slice.injEq, Option.some.injEq, Addr.mk.injEq] at hv
              obtain ⟨⟨rfl, _⟩, _⟩ := hv
              exact (Array.getElem?_eq_some_iff.1 hg).1
          obtain ⟨G, hG⟩ : ∃ G, w2.heap.size = G := ⟨_, rfl⟩
          rw [hG] at HBUF hg2 ⊢
          have HC0 : Hid (∀ W, Below w3.heap.size w3 W → W.cell? ⟨G, 0, none⟩ = some (.int .u8 42)) := by
            intro W hW
            have := cell0 (HBUF.out W hW) (by rw [HBl.out]; omega)
            rw [HB0.out] at this
            exact this
          clear ho3 HCAT HES2 hG
          have m0 : ((M : Int) == 0) = false := by rw [beq_eq_false_iff_ne]; omega
          go_wp2_with fail
          refine (reader_any (some ⟨G, 0, none⟩) M M w3).mono ?_
          rintro e w4 ⟨rfl, hR4, hb4⟩
          have HR4 := Hid.intro' hR4
          clear hR4
          have HP4 := Hid.intro' (peek_sl w3.heap.size _ B w4 (HBUF.out w4 hb4) (by rw [HBl.out]; exact HR4.out) (by rw [HBl.out]; omega))
          go_wp2_with fail
          refine HP4.out.mono ?_
          rintro e w5 ⟨r1, rfl, hp1, hb5⟩
          have HPP1 := Hid.intro' (HBw2.out _ _ hp1)
          have hb35 := hb4.trans (hb5.mono hb4.size)
          have HP5 := Hid.intro' (peek_sl w3.heap.size _ B w5 (HBUF.out w5 hb35) (by rw [HBl.out]; exact HR4.out.below hb5) (by rw [HBl.out]; omega))
          clear hp1 HP4
          go_wp2_with fail
          refine HP5.out.mono ?_
          rintro e w6 ⟨r2, rfl, hp2, hb6⟩
          have HPP2 := Hid.intro' (HBw2.out _ _ hp2)
          have hb36 := hb35.trans (hb6.mono hb35.size)
          clear hp2 HP5 HR4
          obtain ⟨L1, hL1⟩ : ∃ L, (ess.getD 1 []).length = L := ⟨_, rfl⟩
          have hle : L1 ≤ 4194304 := by rw [← hL1]; exact mem_getD' HE.out 1
          have HLe : Hid ((ess.getD 1 []).length ≤ 4194304) := mem_getD' HE.out 1
          obtain ⟨⟨ad1, cc1, hr1⟩, hsl1⟩ := HPP1.out
          obtain ⟨⟨ad2, cc2, hr2⟩, hsl2⟩ := HPP2.out
          have HS1' := Hid.intro' (hsl1.below hb6)
          have HS2' := Hid.intro' hsl2
          obtain ⟨b1, o1, au, cu, ha1, hlt1, hc1, hs1⟩ := (HES.out w6 hb36).get 1 (by rw [HH.out.1]; omega)
          have HSU := Hid.intro' hs1
          subst ha1
          have HEQ1 := eq_sl r1 _ _ _ w6 HS1'.out HSU.out HLe.out HLe.out
          rw [decide_eq_true rfl] at HEQ1
          have HCU : Hid (∀ W, Below w6.heap.size w6 W → W.cell? ⟨b1, o1 + 1, none⟩ = some (.slice au L1 cu)) := by
            intro W hW
            rw [hL1] at hc1
            exact (hW.cell (p := ⟨b1, o1 + 1, none⟩) hlt1).trans hc1
          rw [hL1] at HEQ1 hr1 hr2 hc1
          have HEQ1' := Hid.intro' HEQ1
          have HEQ2 : Hid (∀ W, Below w6.heap.size w6 W → Calls Tryd.prog 12 #[r2, .slice au L1 cu] W fun e w' => e = .returned (.bool true) ∧ Below W.heap.size W w') := by
            intro W hW
            have hs := HSU.out
            have q := eq_sl r2 _ _ _ W (HS2'.out.below hW) (hs.below hW) HLe.out HLe.out
            rw [decide_eq_true rfl, hL1] at q
            exact q
          clear hsl1 hsl2 hs1 HEQ1 HPP1 HPP2
          have HR1 := Hid.intro' hr1
          subst hr1
          subst hr2
          have hq1 := fun w => Lib.run_eql_slice_nil (P := Tryd.prog) w 22 5 (some ad1) L1 cc1 0 0 Tryd.underlying22
          have hq2 := fun w => Lib.run_eql_slice_nil (P := Tryd.prog) w 22 5 (some ad2) L1 cc2 0 0 Tryd.underlying22
          go_wp2_with fail
          refine HEQ1'.out.mono ?_
          rintro e w7 ⟨rfl, hb7⟩
          have hc7 := HCU.out w7 hb7
          have HEQ7 := Hid.intro' (HEQ2.out w7 hb7)
          have hb37 := hb36.trans (hb7.mono hb36.size)
          go_wp2_with fail
          refine HEQ7.out.mono ?_
          rintro e w8 ⟨rfl, hb8⟩
          have hb38 := hb37.trans (hb8.mono hb37.size)
          clear hc7 HEQ7 HEQ2 HEQ1' HCU HSU HS1' HS2' hc1 HR1
          go_wp2_with fail
          refine (clone_some ⟨G, 0, none⟩ M M B w8 HBl.out (by omega) (rd_of (HBUF.out w8 hb38))).mono ?_
          rintro e w9 ⟨rfl, ho9, hb9⟩
          have hb39 := hb38.trans (hb9.mono hb38.size)
          have hs38 := hb38.size
          obtain ⟨hf9, u9, hu9⟩ := ho9.room HBl.out (by omega)
          have HO9 := Hid.intro' (ho9.put (c := c) HBl.out)
          obtain ⟨g9, hg9⟩ : ∃ g, w8.heap.size = g := ⟨_, rfl⟩
          rw [hg9] at hf9 hu9 HO9 hs38 ⊢
          have hbs : Below w3.heap.size w3 (w9.setCell ⟨g9, 0, none⟩ (.int .u8 c)) := hb39.setCell hs38 _
          obtain ⟨ws, hws⟩ : ∃ W, w9.setCell ⟨g9, 0, none⟩ (.int .u8 c) = W := ⟨_, rfl⟩
          have HWS := Hid.intro' hws
          rw [hws] at HO9 hbs
          clear ho9 hws hg9
          have i0 : (0 : Int) < (M : Int) := by omega
          go_wp2_with fail
          rw [HWS.out]
          refine (reader_any (some ⟨g9, 0, none⟩) M M ws).mono ?_
          rintro e wa ⟨rfl, hRa, hba⟩
          have HRa := Hid.intro' hRa
          have HSa := Hid.intro' (HO9.out.sl.below hba)
          have HBSl : Hid ((B.set 0 c).length = M) := by unfold Hid; rw [List.length_set]; exact HBl.out
          have HPa := Hid.intro' (peek_sl ws.heap.size _ (B.set 0 c) wa HSa.out (by rw [HBSl.out]; exact HRa.out) (by rw [HBSl.out]; omega))
          have hb3a := hbs.trans (hba.mono hbs.size)
          clear hRa
          go_wp2_with fail
          refine HPa.out.mono ?_
          rintro e wb ⟨r3, rfl, hp3, hbb⟩
          have hb3b := hb3a.trans (hbb.mono hb3a.size)
          by_cases c42 : c = 42
          · have c42' : (c == 42) = true := by rw [beq_iff_eq]; exact c42
            have hp3' : Peeked wb B r3 := by rw [c42, HBs.out] at hp3; exact hp3
            have HPP3 := Hid.intro' (HBw2.out _ _ hp3')
            clear hp3 hp3' HPa HSa HRa
            obtain ⟨⟨ad3, cc3, hr3⟩, hsl3⟩ := HPP3.out
            obtain ⟨b3', o3', au', cu', ha3, hlt3, hc3, hs3⟩ := (HES.out wb hb3b).get 1 (by rw [HH.out.1]; omega)
            have ha3' := ha3
            injection ha3' with ha3'
            injection ha3' with e1 e2
            subst e1
            subst e2
            have EQ3 := eq_sl r3 _ _ _ wb hsl3 hs3 HLe.out HLe.out
            rw [decide_eq_true rfl, hL1] at EQ3
            rw [hL1] at hr3 hc3
            subst hr3
            have HEQ3 := Hid.intro' EQ3
            have hq3 := fun w => Lib.run_eql_slice_nil (P := Tryd.prog) w 22 5 (some ad3) L1 cc3 0 0 Tryd.underlying22
            clear EQ3 hs3 hsl3 HPP3 ha3
            go_wp2_with fail
            refine HEQ3.out.mono ?_
            rintro e wc ⟨rfl, hbc⟩
            have hb3c := hb3b.trans (hbc.mono hb3b.size)
            obtain ⟨i5, hi, hz0, hz1, hz2⟩ := info_parts info5
            have hs3c := hb3c.size
            have j1 : (1 : Int) < (M : Int) := by omega
            have j0 : (0 : Int) < (M : Int) := by omega
            have HD1 : Hid ((B.drop 1).length = M - 1) := by unfold Hid; rw [List.length_drop, HBl.out]
            go_wp2_with (first
              | (at_make; refine wpList_make_own _ rfl (.const (.int .i64 0)) (.tmp 132) 22 rfl wc.heap.size 5 i5 (.int .u8 0) 1 Tryd.underlying22 hi hz0 hz1 .i64 .i64 _ (M + 1) rfl rfl (by omega) (by rw [hz2]; omega) (by unfold maxLen; omega) (Nat.le_refl _) ?_; intro wd hown hgrow; have hbd : Below wc.heap.size wc wd := (Below.refl _ _).grown hgrow (Nat.le_refl _) (by intro k e; cases e); have hod : Owns wd wc.heap.size (.slice (some ⟨wc.heap.size, 0, none⟩) 0 (M + 1)) [] := hown; have hb3d := hb3c.trans (hbd.mono hs3c); have hsd := hbd.size; have hcd := HC0.out wd hb3d; clear hown hgrow)
              | (at_builtin; refine wpList_append_rd _ rfl (.tmp 134) (.tmp 138) 22 rfl wc.heap.size i5 Tryd.underlying22 hi hz0 hz1 hz2 _ [] rfl (hod.alloc (.cells #[.int .u8 42, .int .u8 48] 5)) (some ⟨wd.heap.size, 0, none⟩) 2 2 _ [42, 48] rfl rfl (by intro e; cases e) (rd_two wd 42 48) (by simp) (by simp; omega) ?_; intro ve we hoe hge; have hbe : Below wc.heap.size wc we := (hbd.alloc (by omega) _).trans (below_grown hge (hod.alloc (.cells #[.int .u8 42, .int .u8 48] 5)) (Nat.le_refl _) (by simp; omega)); have hb3e := hb3c.trans (hbe.mono hs3c); have hse := hbe.size; clear hge)
              | (at_builtin; refine wpList_append_rd _ rfl (.tmp 140) (.tmp 142) 22 rfl wc.heap.size i5 Tryd.underlying22 hi hz0 hz1 hz2 ve _ rfl hoe (some ⟨G, 1, none⟩) (M - 1) (M - 1) _ (B.drop 1) rfl HD1.out (by intro e; cases e) (rd_drop (HBUF.out we hb3e)) (by simp; omega) (by omega) ?_; intro vf wf hof hgf; have hbf : Below wc.heap.size wc wf := hbe.trans (below_grown hgf hoe (Nat.le_refl _) (by omega)); have hb3f := hb3c.trans (hbf.mono hs3c)))
            have HZl : Hid (([] ++ [42, 48] ++ B.drop 1 : List Int).length = M + 1) := by
              unfold Hid; rw [List.length_append, HD1.out]; simp; omega
            have HZs := Hid.intro' hof.sl
            obtain ⟨af, cf, hvf, _⟩ := hof.form
            rw [HZl.out] at hvf
            subst hvf
            clear hof hoe hod hgf
            refine (reader_any af (M + 1) cf wf).mono ?_
            rintro e wg ⟨rfl, hRg, hbg⟩
            have hb3g := hb3f.trans (hbg.mono hb3f.size)
            have HPg := Hid.intro' (peek_sl wf.heap.size _ _ wg (HZs.out.below hbg) (by rw [HZl.out]; exact hRg) (by rw [HZl.out]; omega))
            clear hRg
            go_wp2_with fail
            refine HPg.out.mono ?_
            rintro e wh ⟨r4, rfl, hp4, hbh⟩
            have hr4 := HBz.out _ _ hp4
            subst hr4
            have hb3h := hb3g.trans (hbh.mono hb3g.size)
            have hq4 := fun w => Lib.run_eql_slice_nil (P := Tryd.prog) w 22 5 none 0 0 0 0 Tryd.underlying22
            clear hp4 HPg
            go_wp2
            go_ret
            exact ⟨rfl, hb03.trans (hb3h.mono hs03)⟩
          · have c42' : (c == 42) = false := by rw [beq_eq_false_iff_ne]; exact c42
            have hr3 := HBo.out _ _ c42 hp3
            subst hr3
            clear hp3 HPa HSa HRa
            have hq3 := fun w => Lib.run_eql_slice_nil (P := Tryd.prog) w 22 5 none 0 0 0 0 Tryd.underlying22
            obtain ⟨wc, hwc⟩ : ∃ W, wb = W := ⟨_, rfl⟩
            rw [hwc] at hb3b ⊢
            have hb3c := hb3b
            obtain ⟨i5, hi, hz0, hz1, hz2⟩ := info_parts info5
            have hs3c := hb3c.size
            have j1 : (1 : Int) < (M : Int) := by omega
            have j0 : (0 : Int) < (M : Int) := by omega
            have HD1 : Hid ((B.drop 1).length = M - 1) := by unfold Hid; rw [List.length_drop, HBl.out]
            go_wp2_with (first
              | (at_make; refine wpList_make_own _ rfl (.const (.int .i64 0)) (.tmp 132) 22 rfl wc.heap.size 5 i5 (.int .u8 0) 1 Tryd.underlying22 hi hz0 hz1 .i64 .i64 _ (M + 1) rfl rfl (by omega) (by rw [hz2]; omega) (by unfold maxLen; omega) (Nat.le_refl _) ?_; intro wd hown hgrow; have hbd : Below wc.heap.size wc wd := (Below.refl _ _).grown hgrow (Nat.le_refl _) (by intro k e; cases e); have hod : Owns wd wc.heap.size (.slice (some ⟨wc.heap.size, 0, none⟩) 0 (M + 1)) [] := hown; have hb3d := hb3c.trans (hbd.mono hs3c); have hsd := hbd.size; have hcd := HC0.out wd hb3d; clear hown hgrow)
              | (at_builtin; refine wpList_append_rd _ rfl (.tmp 134) (.tmp 138) 22 rfl wc.heap.size i5 Tryd.underlying22 hi hz0 hz1 hz2 _ [] rfl (hod.alloc (.cells #[.int .u8 42, .int .u8 48] 5)) (some ⟨wd.heap.size, 0, none⟩) 2 2 _ [42, 48] rfl rfl (by intro e; cases e) (rd_two wd 42 48) (by simp) (by simp; omega) ?_; intro ve we hoe hge; have hbe : Below wc.heap.size wc we := (hbd.alloc (by omega) _).trans (below_grown hge (hod.alloc (.cells #[.int .u8 42, .int .u8 48] 5)) (Nat.le_refl _) (by simp; omega)); have hb3e := hb3c.trans (hbe.mono hs3c); have hse := hbe.size; clear hge)
              | (at_builtin; refine wpList_append_rd _ rfl (.tmp 140) (.tmp 142) 22 rfl wc.heap.size i5 Tryd.underlying22 hi hz0 hz1 hz2 ve _ rfl hoe (some ⟨G, 1, none⟩) (M - 1) (M - 1) _ (B.drop 1) rfl HD1.out (by intro e; cases e) (rd_drop (HBUF.out we hb3e)) (by simp; omega) (by omega) ?_; intro vf wf hof hgf; have hbf : Below wc.heap.size wc wf := hbe.trans (below_grown hgf hoe (Nat.le_refl _) (by omega)); have hb3f := hb3c.trans (hbf.mono hs3c)))
            have HZl : Hid (([] ++ [42, 48] ++ B.drop 1 : List Int).length = M + 1) := by
              unfold Hid; rw [List.length_append, HD1.out]; simp; omega
            have HZs := Hid.intro' hof.sl
            obtain ⟨af, cf, hvf, _⟩ := hof.form
            rw [HZl.out] at hvf
            subst hvf
            clear hof hoe hod hgf
            refine (reader_any af (M + 1) cf wf).mono ?_
            rintro e wg ⟨rfl, hRg, hbg⟩
            have hb3g := hb3f.trans (hbg.mono hb3f.size)
            have HPg := Hid.intro' (peek_sl wf.heap.size _ _ wg (HZs.out.below hbg) (by rw [HZl.out]; exact hRg) (by rw [HZl.out]; omega))
            clear hRg
            go_wp2_with fail
            refine HPg.out.mono ?_
            rintro e wh ⟨r4, rfl, hp4, hbh⟩
            have hr4 := HBz.out _ _ hp4
            subst hr4
            have hb3h := hb3g.trans (hbh.mono hb3g.size)
            have hq4 := fun w => Lib.run_eql_slice_nil (P := Tryd.prog) w 22 5 none 0 0 0 0 Tryd.underlying22
            clear hp4 HPg
            go_wp2
            go_ret
            exact ⟨rfl, hb03.trans (hb3h.mono hs03)⟩
        · have l2' : ¬ (2 : Int) ≤ (len : Int) := by omega
          have HBw2 : Hid (∀ w r, Peeked w B r → r = .slice none 0 0) := by
            intro w r h2
            have := HBw.out w r h2
            rw [if_neg l2] at this
            exact this
          clear HBw
          go_wp2_with fail
          refine HARR.out.mono ?_
          rintro e w2 ⟨v2, rfl, ho2, hb2⟩
          obtain ⟨a2, c2, hv2, hr2, _⟩ := ho2.form
          rw [HN.out] at hv2
          subst hv2
          have CAT := cat2_any a2 ta N c2 lt tc (arr ess) zt w2 HN.out HLL.out (by omega) (by omega) hr2 (rd_of (HT1.out.below hb2))
          rw [HMM.out, HB.out] at CAT
          have HCAT := Hid.intro' CAT
          have HES2 := Hid.intro' (HS1.out.below hb2)
          have hb02 := hb1.trans (hb2.mono hb1.size)
          clear CAT ho2 hr2 HARR
          go_wp2_with fail
          refine HCAT.out.mono ?_
          rintro e w3 ⟨rfl, ho3, hb3⟩
          have hb03 := hb02.trans (hb3.mono hb02.size)
          have hs03 := hb03.size
          have HES : Hid (∀ W, Below w3.heap.size w3 W → Sll W a' ess) := fun W hW => (HES2.out.below hb3).below hW
          have HBUF : Hid (∀ W, Below w3.heap.size w3 W → Sl W (.slice (some ⟨w2.heap.size, 0, none⟩) M M) B) := fun W hW => ho3.sl.below hW
          have hg2 : w2.heap.size < w3.heap.size := by
            rcases ho3.2 with ⟨h, _⟩ | ⟨g, cap, cur, hv, hbg, hg, _⟩
            · cases h
            · simp only [Value.slice.injEq, Option.some.injEq, Addr.mk.injEq] at hv
              obtain ⟨⟨rfl, _⟩, _⟩ := hv
              exact (Array.getElem?_eq_some_iff.1 hg).1
          obtain ⟨G, hG⟩ : ∃ G, w2.heap.size = G := ⟨_, rfl⟩
          rw [hG] at HBUF hg2 ⊢
          have HC0 : Hid (∀ W, Below w3.heap.size w3 W → W.cell? ⟨G, 0, none⟩ = some (.int .u8 42)) := by
            intro W hW
            have := cell0 (HBUF.out W hW) (by rw [HBl.out]; omega)
            rw [HB0.out] at this
            exact this
          clear ho3 HCAT HES2 hG
          have m0 : ((M : Int) == 0) = false := by rw [beq_eq_false_iff_ne]; omega
          go_wp2_with fail
          refine (reader_any (some ⟨G, 0, none⟩) M M w3).mono ?_
          rintro e w4 ⟨rfl, hR4, hb4⟩
          have HR4 := Hid.intro' hR4
          clear hR4
          have HP4 := Hid.intro' (peek_sl w3.heap.size _ B w4 (HBUF.out w4 hb4) (by rw [HBl.out]; exact HR4.out) (by rw [HBl.out]; omega))
          go_wp2_with fail
          refine HP4.out.mono ?_
          rintro e w5 ⟨r1, rfl, hp1, hb5⟩
          have HPP1 := Hid.intro' (HBw2.out _ _ hp1)
          have hb35 := hb4.trans (hb5.mono hb4.size)
          have HP5 := Hid.intro' (peek_sl w3.heap.size _ B w5 (HBUF.out w5 hb35) (by rw [HBl.out]; exact HR4.out.below hb5) (by rw [HBl.out]; omega))
          clear hp1 HP4
          go_wp2_with fail
          refine HP5.out.mono ?_
          rintro e w6 ⟨r2, rfl, hp2, hb6⟩
          have HPP2 := Hid.intro' (HBw2.out _ _ hp2)
          have hb36 := hb35.trans (hb6.mono hb35.size)
          clear hp2 HP5 HR4
          have hr1 := HPP1.out
          have hr2 := HPP2.out
          subst hr1
          subst hr2
          have hq1 := fun w => Lib.run_eql_slice_nil (P := Tryd.prog) w 22 5 none 0 0 0 0 Tryd.underlying22
          have hb38 := hb36
          obtain ⟨w8, hw8⟩ : ∃ W, w6 = W := ⟨_, rfl⟩
          rw [hw8] at hb38 ⊢
          clear HPP1 HPP2
          go_wp2_with fail
          refine (clone_some ⟨G, 0, none⟩ M M B w8 HBl.out (by omega) (rd_of (HBUF.out w8 hb38))).mono ?_
          rintro e w9 ⟨rfl, ho9, hb9⟩
          have hb39 := hb38.trans (hb9.mono hb38.size)
          have hs38 := hb38.size
          obtain ⟨hf9, u9, hu9⟩ := ho9.room HBl.out (by omega)
          have HO9 := Hid.intro' (ho9.put (c := c) HBl.out)
          obtain ⟨g9, hg9⟩ : ∃ g, w8.heap.size = g := ⟨_, rfl⟩
          rw [hg9] at hf9 hu9 HO9 hs38 ⊢
          have hbs : Below w3.heap.size w3 (w9.setCell ⟨g9, 0, none⟩ (.int .u8 c)) := hb39.setCell hs38 _
          obtain ⟨ws, hws⟩ : ∃ W, w9.setCell ⟨g9, 0, none⟩ (.int .u8 c) = W := ⟨_, rfl⟩
          have HWS := Hid.intro' hws
          rw [hws] at HO9 hbs
          clear ho9 hws hg9
          have i0 : (0 : Int) < (M : Int) := by omega
          go_wp2_with fail
          rw [HWS.out]
          refine (reader_any (some ⟨g9, 0, none⟩) M M ws).mono ?_
          rintro e wa ⟨rfl, hRa, hba⟩
          have HRa := Hid.intro' hRa
          have HSa := Hid.intro' (HO9.out.sl.below hba)
          have HBSl : Hid ((B.set 0 c).length = M) := by unfold Hid; rw [List.length_set]; exact HBl.out
          have HPa := Hid.intro' (peek_sl ws.heap.size _ (B.set 0 c) wa HSa.out (by rw [HBSl.out]; exact HRa.out) (by rw [HBSl.out]; omega))
          have hb3a := hbs.trans (hba.mono hbs.size)
          clear hRa
          go_wp2_with fail
          refine HPa.out.mono ?_
          rintro e wb ⟨r3, rfl, hp3, hbb⟩
          have hb3b := hb3a.trans (hbb.mono hb3a.size)
          by_cases c42 : c = 42
          · have c42' : (c == 42) = true := by rw [beq_iff_eq]; exact c42
            have hp3' : Peeked wb B r3 := by rw [c42, HBs.out] at hp3; exact hp3
            have HPP3 := Hid.intro' (HBw2.out _ _ hp3')
            clear hp3 hp3' HPa HSa HRa
            have hr3 := HPP3.out
            subst hr3
            have hq3 := fun w => Lib.run_eql_slice_nil (P := Tryd.prog) w 22 5 none 0 0 0 0 Tryd.underlying22
            obtain ⟨wc, hwc⟩ : ∃ W, wb = W := ⟨_, rfl⟩
            rw [hwc] at hb3b ⊢
            have hb3c := hb3b
            obtain ⟨i5, hi, hz0, hz1, hz2⟩ := info_parts info5
            have hs3c := hb3c.size
            have j1 : (1 : Int) < (M : Int) := by omega
            have j0 : (0 : Int) < (M : Int) := by omega
            have HD1 : Hid ((B.drop 1).length = M - 1) := by unfold Hid; rw [List.length_drop, HBl.out]
            go_wp2_with (first
              | (at_make; refine wpList_make_own _ rfl (.const (.int .i64 0)) (.tmp 132) 22 rfl wc.heap.size 5 i5 (.int .u8 0) 1 Tryd.underlying22 hi hz0 hz1 .i64 .i64 _ (M + 1) rfl rfl (by omega) (by rw [hz2]; omega) (by unfold maxLen; omega) (Nat.le_refl _) ?_; intro wd hown hgrow; have hbd : Below wc.heap.size wc wd := (Below.refl _ _).grown hgrow (Nat.le_refl _) (by intro k e; cases e); have hod : Owns wd wc.heap.size (.slice (some ⟨wc.heap.size, 0, none⟩) 0 (M + 1)) [] := hown; have hb3d := hb3c.trans (hbd.mono hs3c); have hsd := hbd.size; have hcd := HC0.out wd hb3d; clear hown hgrow)
              | (at_builtin; refine wpList_append_rd _ rfl (.tmp 134) (.tmp 138) 22 rfl wc.heap.size i5 Tryd.underlying22 hi hz0 hz1 hz2 _ [] rfl (hod.alloc (.cells #[.int .u8 42, .int .u8 48] 5)) (some ⟨wd.heap.size, 0, none⟩) 2 2 _ [42, 48] rfl rfl (by intro e; cases e) (rd_two wd 42 48) (by simp) (by simp; omega) ?_; intro ve we hoe hge; have hbe : Below wc.heap.size wc we := (hbd.alloc (by omega) _).trans (below_grown hge (hod.alloc (.cells #[.int .u8 42, .int .u8 48] 5)) (Nat.le_refl _) (by simp; omega)); have hb3e := hb3c.trans (hbe.mono hs3c); have hse := hbe.size; clear hge)
              | (at_builtin; refine wpList_append_rd _ rfl (.tmp 140) (.tmp 142) 22 rfl wc.heap.size i5 Tryd.underlying22 hi hz0 hz1 hz2 ve _ rfl hoe (some ⟨G, 1, none⟩) (M - 1) (M - 1) _ (B.drop 1) rfl HD1.out (by intro e; cases e) (rd_drop (HBUF.out we hb3e)) (by simp; omega) (by omega) ?_; intro vf wf hof hgf; have hbf : Below wc.heap.size wc wf := hbe.trans (below_grown hgf hoe (Nat.le_refl _) (by omega)); have hb3f := hb3c.trans (hbf.mono hs3c)))
            have HZl : Hid (([] ++ [42, 48] ++ B.drop 1 : List Int).length = M + 1) := by
              unfold Hid; rw [List.length_append, HD1.out]; simp; omega
            have HZs := Hid.intro' hof.sl
            obtain ⟨af, cf, hvf, _⟩ := hof.form
            rw [HZl.out] at hvf
            subst hvf
            clear hof hoe hod hgf
            refine (reader_any af (M + 1) cf wf).mono ?_
            rintro e wg ⟨rfl, hRg, hbg⟩
            have hb3g := hb3f.trans (hbg.mono hb3f.size)
            have HPg := Hid.intro' (peek_sl wf.heap.size _ _ wg (HZs.out.below hbg) (by rw [HZl.out]; exact hRg) (by rw [HZl.out]; omega))
            clear hRg
            go_wp2_with fail
            refine HPg.out.mono ?_
            rintro e wh ⟨r4, rfl, hp4, hbh⟩
            have hr4 := HBz.out _ _ hp4
            subst hr4
            have hb3h := hb3g.trans (hbh.mono hb3g.size)
            have hq4 := fun w => Lib.run_eql_slice_nil (P := Tryd.prog) w 22 5 none 0 0 0 0 Tryd.underlying22
            clear hp4 HPg
            go_wp2
            go_ret
            exact ⟨rfl, hb03.trans (hb3h.mono hs03)⟩
          · have c42' : (c == 42) = false := by rw [beq_eq_false_iff_ne]; exact c42
            have hr3 := HBo.out _ _ c42 hp3
            subst hr3
            clear hp3 HPa HSa HRa
            have hq3 := fun w => Lib.run_eql_slice_nil (P := Tryd.prog) w 22 5 none 0 0 0 0 Tryd.underlying22
            obtain ⟨wc, hwc⟩ : ∃ W, wb = W := ⟨_, rfl⟩
            rw [hwc] at hb3b ⊢
            have hb3c := hb3b
            obtain ⟨i5, hi, hz0, hz1, hz2⟩ := info_parts info5
            have hs3c := hb3c.size
            have j1 : (1 : Int) < (M : Int) := by omega
            have j0 : (0 : Int) < (M : Int) := by omega
            have HD1 : Hid ((B.drop 1).length = M - 1) := by unfold Hid; rw [List.length_drop, HBl.out]
            go_wp2_with (first
              | (at_make; refine wpList_make_own _ rfl (.const (.int .i64 0)) (.tmp 132) 22 rfl wc.heap.size 5 i5 (.int .u8 0) 1 Tryd.underlying22 hi hz0 hz1 .i64 .i64 _ (M + 1) rfl rfl (by omega) (by rw [hz2]; omega) (by unfold maxLen; omega) (Nat.le_refl _) ?_; intro wd hown hgrow; have hbd : Below wc.heap.size wc wd := (Below.refl _ _).grown hgrow (Nat.le_refl _) (by intro k e; cases e); have hod : Owns wd wc.heap.size (.slice (some ⟨wc.heap.size, 0, none⟩) 0 (M + 1)) [] := hown; have hb3d := hb3c.trans (hbd.mono hs3c); have hsd := hbd.size; have hcd := HC0.out wd hb3d; clear hown hgrow)
              | (at_builtin; refine wpList_append_rd _ rfl (.tmp 134) (.tmp 138) 22 rfl wc.heap.size i5 Tryd.underlying22 hi hz0 hz1 hz2 _ [] rfl (hod.alloc (.cells #[.int .u8 42, .int .u8 48] 5)) (some ⟨wd.heap.size, 0, none⟩) 2 2 _ [42, 48] rfl rfl (by intro e; cases e) (rd_two wd 42 48) (by simp) (by simp; omega) ?_; intro ve we hoe hge; have hbe : Below wc.heap.size wc we := (hbd.alloc (by omega) _).trans (below_grown hge (hod.alloc (.cells #[.int .u8 42, .int .u8 48] 5)) (Nat.le_refl _) (by simp; omega)); have hb3e := hb3c.trans (hbe.mono hs3c); have hse := hbe.size; clear hge)
              | (at_builtin; refine wpList_append_rd _ rfl (.tmp 140) (.tmp 142) 22 rfl wc.heap.size i5 Tryd.underlying22 hi hz0 hz1 hz2 ve _ rfl hoe (some ⟨G, 1, none⟩) (M - 1) (M - 1) _ (B.drop 1) rfl HD1.out (by intro e; cases e) (rd_drop (HBUF.out we hb3e)) (by simp; omega) (by omega) ?_; intro vf wf hof hgf; have hbf : Below wc.heap.size wc wf := hbe.trans (below_grown hgf hoe (Nat.le_refl _) (by omega)); have hb3f := hb3c.trans (hbf.mono hs3c)))
            have HZl : Hid (([] ++ [42, 48] ++ B.drop 1 : List Int).length = M + 1) := by
              unfold Hid; rw [List.length_append, HD1.out]; simp; omega
            have HZs := Hid.intro' hof.sl
            obtain ⟨af, cf, hvf, _⟩ := hof.form
            rw [HZl.out] at hvf
            subst hvf
            clear hof hoe hod hgf
            refine (reader_any af (M + 1) cf wf).mono ?_
            rintro e wg ⟨rfl, hRg, hbg⟩
            have hb3g := hb3f.trans (hbg.mono hb3f.size)
            have HPg := Hid.intro' (peek_sl wf.heap.size _ _ wg (HZs.out.below hbg) (by rw [HZl.out]; exact hRg) (by rw [HZl.out]; omega))
            clear hRg
            go_wp2_with fail
            refine HPg.out.mono ?_
            rintro e wh ⟨r4, rfl, hp4, hbh⟩
            have hr4 := HBz.out _ _ hp4
            subst hr4
            have hb3h := hb3g.trans (hbh.mono hb3g.size)
            have hq4 := fun w => Lib.run_eql_slice_nil (P := Tryd.prog) w 22 5 none 0 0 0 0 Tryd.underlying22
            clear hp4 HPg
            go_wp2
            go_ret
            exact ⟨rfl, hb03.trans (hb3h.mono hs03)⟩
end Go.Proofs.Qxb6608909aDoor
