import Derived.Test.Qxb6608909aDoorClone
namespace Go.Proofs.Qxb6608909aDoor
open Go.RowKit
set_option linter.unusedSimpArgs false
set_option linter.unusedVariables false

theorem Owns.base {w : World} {base base' : Nat} {v : Value} {zs : List Int} (h : Owns w base v zs) (hb : base' ≤ base) : Owns w base' v zs := by
  refine ⟨h.1, ?_⟩
  rcases h.2 with h1 | ⟨g, cap, cur, hv, hbg, rest⟩
  · exact .inl h1
  · exact .inr ⟨g, cap, cur, hv, by omega, rest⟩

theorem Owns.other {w : World} {g k : Nat} {u v : Value} {zs : List Int} (h : Owns w (g + 1) v zs) : Owns (w.setCell ⟨g, k, none⟩ u) (g + 1) v zs := by
  refine ⟨h.1, ?_⟩
  rcases h.2 with h1 | ⟨g', cap, cur, hv, hbg, hg, rest⟩
  · exact .inl h1
  · refine .inr ⟨g', cap, cur, hv, hbg, ?_, rest⟩
    have hb : Below (g' + 1) w w := Below.refl _ _
    rw [Below.heap_setCell w ⟨g, k, none⟩ u g' (by simp; omega)]
    exact hg

set_option maxHeartbeats 400000 in
theorem cloneAll_nil (n c : Nat) (w : World) :
    Calls Tryd.prog 10 #[.slice none n c] w fun e w' => e = .returned (.slice none 0 0) ∧ w' = w := by
  have hn := fun w => Lib.run_eql_slice_nil (P := Tryd.prog) w 23 22 none n c 0 0 Tryd.underlying23
  go_enter Tryd.func10, Tryd.ntmps10
  go_wp2
  go_ret
  exact ⟨rfl, rfl⟩

/-- How far the clones are made. -/
def Cloned (w : World) (g len k : Nat) (ess : List (List Int)) : Prop :=
  ∃ XS : List Value, w.ownsRow g 22 1 (.slice (some ⟨g, 0, none⟩) len len) len XS ∧ ∀ j, j < k → ∃ u, XS[j]? = some u ∧ Owns w (g + 1) u (ess.getD j [])

theorem Cloned.size {w : World} {g len k : Nat} {ess : List (List Int)} (h : Cloned w g len k ess) : g < w.heap.size := by
  obtain ⟨XS, h1, h2⟩ := h
  exact (Array.getElem?_eq_some_iff.1 (made_row h1)).1

theorem Cloned.below {w w' : World} {g len k : Nat} {ess : List (List Int)} (h : Cloned w g len k ess) (hb : Below w.heap.size w w') : Cloned w' g len k ess := by
  have hs := h.size
  obtain ⟨XS, h1, h2⟩ := h
  refine ⟨XS, ?_, fun j hj => ?_⟩
  · refine ⟨h1.1, ?_⟩
    rcases h1.2 with h1 | ⟨g', cap, cur, hv, hbg, hg, rest⟩
    · exact .inl h1
    · refine .inr ⟨g', cap, cur, hv, hbg, ?_, rest⟩
      rw [hb.block g' (by have := (Array.getElem?_eq_some_iff.1 hg).1; omega)]
      exact hg
  · obtain ⟨u, hu, ho⟩ := h2 j hj
    exact ⟨u, hu, ho.below hb (Nat.le_refl _)⟩

theorem Cloned.step {w : World} {g len k : Nat} {ess : List (List Int)} {u : Value} (h : Cloned w g len k ess) (hk : k < len) (ho : Owns w (g + 1) u (ess.getD k [])) : Cloned (w.setCell ⟨g, k, none⟩ u) g len (k + 1) ess := by
  obtain ⟨XS, h1, h2⟩ := h
  have hl : XS.length = len := by rw [h1.1, Nat.mul_one]
  refine ⟨XS.set k u, (h1.stored k u).1, fun j hj => ?_⟩
  by_cases e : j = k
  · subst e
    exact ⟨u, by rw [List.getElem?_set_self (by omega)], ho.other⟩
  · obtain ⟨v, hv, hov⟩ := h2 j (by omega)
    exact ⟨v, by rw [List.getElem?_set_ne (by omega)]; exact hv, hov.other⟩

theorem Cloned.done {w : World} {g len : Nat} {ess : List (List Int)} (h : Cloned w g len len ess) (hl : ess.length = len) : Sll w (some ⟨g, 0, none⟩) ess := by
  have hs := h.size
  obtain ⟨XS, h1, h2⟩ := h
  refine .inr ⟨g, 0, rfl, hs, fun j hj => ?_⟩
  obtain ⟨u, hu, ho⟩ := h2 j (by omega)
  refine ⟨u, ?_, ho.sl⟩
  rw [Nat.zero_add, h1.cellAt j (by omega)]
  exact hu

theorem Cloned.at {w : World} {g len k : Nat} {ess : List (List Int)} (h : Cloned w g len k ess) (j : Nat) (hj : j < len) : w.frozen? ⟨g, j, none⟩ = false ∧ ∃ u, w.cell? ⟨g, j, none⟩ = some u := by
  obtain ⟨XS, h1, h2⟩ := h
  have hl : XS.length = len := by rw [h1.1, Nat.mul_one]
  refine ⟨h1.frozenAt j, ?_⟩
  rw [h1.cellAt j (by omega)]
  exact ⟨_, List.getElem?_eq_getElem (by omega)⟩

set_option maxRecDepth 20000 in
set_option maxHeartbeats 1000000 in
theorem cloneAll_some (x : Addr) (len cap : Nat) (ess : List (List Int)) (w : World) (hlen : ess.length = len) (h1 : len ≤ 9999999) (h2 : ∀ e ∈ ess, e.length ≤ 4194304) (hs : Sll w (some x) ess) :
    Calls Tryd.prog 10 #[.slice (some x) len cap] w fun r w' => r = .returned (.slice (some ⟨w.heap.size, 0, none⟩) len len) ∧ Sll w' (some ⟨w.heap.size, 0, none⟩) ess ∧ Below w.heap.size w w' := by
  have hn := fun w => Lib.run_eql_slice_nil (P := Tryd.prog) w 23 22 (some x) len cap 0 0 Tryd.underlying23
  obtain ⟨i0, hi, hz0, hz1, hz2⟩ := info_parts info22
  have HL : Hid (ess.length = len) := hlen
  have H2 : Hid (∀ e ∈ ess, e.length ≤ 4194304) := h2
  have HS : Hid (Sll w (some x) ess) := hs
  clear hlen h2 hs
  go_enter Tryd.func10, Tryd.ntmps10
  go_wp2_with (at_make; refine wpList_make_full _ rfl (.tmp 8) (.tmp 8) 23 rfl w.heap.size 22 i0 (.slice none 0 0) 1 Tryd.underlying23 hi hz0 hz1 .i64 .i64 _ _ len rfl rfl rfl rfl (by rw [hz2]; omega) (by unfold maxLen; omega) (Nat.le_refl _) ?_; intro w1 hown hgrow; have hb1 : Below w.heap.size w w1 := (Below.refl _ _).grown hgrow (Nat.le_refl _) (by intro k e; cases e); have HC1 : Hid (Cloned w1 w.heap.size len 0 ess) := ⟨_, hown, fun j hj => by omega⟩; clear hown hgrow)
  go_loopw [4] (fun i wr => ∃ k : Nat, k ≤ len ∧ i = .int .i64 k ∧ Hid (Cloned wr w.heap.size len k ess) ∧ Below w.heap.size w wr) (fun i _ => len - (intOf i).toNat)
  case atStart => exact ⟨0, by omega, rfl, HC1, hb1⟩
  case round =>
    clear HC1 hb1
    obtain ⟨k, hk, rfl, HC, hb⟩ := hrel
    by_cases hlt : k < len
    · rcases HS.out with h | ⟨b, o, hx, hbB, hc⟩
      · rw [h] at HL; have := HL.out; simp at this; omega
      injection hx with hx
      subst hx
      obtain ⟨u, hu1, hu2⟩ := hc k (by rw [HL.out]; exact hlt)
      have hcu : wr.cell? ⟨b, o + k, none⟩ = some u := (hb.cell (p := ⟨b, o + k, none⟩) hbB).trans hu1
      have hmem : (ess.getD k []).length ≤ 4194304 := by
        have hk' : k < ess.length := by rw [HL.out]; exact hlt
        rw [List.getD_eq_getElem?_getD, List.getElem?_eq_getElem hk']
        exact H2.out _ (List.getElem_mem hk')
      have HU : Hid (Sl wr u (ess.getD k [])) := by
        obtain ⟨au, cu, hu3, hu4, hu5, hu6⟩ := hu2
        exact ⟨au, cu, hu3, (hu4.below hb (Nat.le_refl _)).up hb.size, hu5, hu6⟩
      have hsz := HC.out.size
      clear hu1 hu2 hc
      have i1 : (0 : Int) ≤ (k : Int) := by omega
      have i2 : (k : Int) < (len : Int) := by omega
      go_wp2_with fail
      refine (clone_sl u _ wr HU.out hmem).mono ?_
      rintro r w2 ⟨v2, rfl, ho2, hb2⟩
      have HC2 := Hid.intro' (HC.out.below hb2)
      have HO2 := Hid.intro' (ho2.base (base' := w.heap.size + 1) hsz)
      have hb3 : Below w.heap.size w w2 := hb.trans (hb2.mono hb.size)
      obtain ⟨hf, y, hy⟩ := HC2.out.at k hlt
      obtain ⟨a2, c2, hv2, _⟩ := ho2.form
      have HC3 := Hid.intro' (HC2.out.step hlt HO2.out)
      obtain ⟨L2, hL2⟩ : ∃ L, (ess.getD k []).length = L := ⟨_, rfl⟩
      rw [hL2] at hv2
      rw [hv2] at HC3 ⊢
      clear hv2 hL2 HO2 ho2 hb2 hb hcu HC
      go_wp2
      go_roundw
      case rel => exact ⟨k + 1, by omega, by go_num, HC3, hb3.setCell (Nat.le_refl _) _⟩
      case measure => simp [intOf]; omega
    · obtain rfl : len = k := by omega
      go_wp2
      go_ret
      exact ⟨rfl, HC.out.done HL.out, hb⟩

theorem cloneAll_any (a : Option Addr) (len cap : Nat) (ess : List (List Int)) (w : World) (hlen : ess.length = len) (h1 : len ≤ 9999999) (h2 : ∀ e ∈ ess, e.length ≤ 4194304) (hs : Sll w a ess) :
    Calls Tryd.prog 10 #[.slice a len cap] w fun r w' => ∃ a' c', r = .returned (.slice a' len c') ∧ Sll w' a' ess ∧ Below w.heap.size w w' := by
  cases a with
  | none =>
    have hz : ess = [] := by
      rcases hs with h | ⟨b, o, h, _⟩
      · exact h
      · cases h
    subst hz
    obtain rfl : 0 = len := hlen
    refine (cloneAll_nil _ _ w).mono ?_
    rintro e w' ⟨rfl, rfl⟩
    exact ⟨_, _, rfl, .inl rfl, Below.refl _ _⟩
  | some x =>
    refine (cloneAll_some x len cap ess w hlen h1 h2 hs).mono ?_
    rintro e w' ⟨rfl, ho, hb⟩
    exact ⟨_, _, rfl, ho, hb⟩
end Go.Proofs.Qxb6608909aDoor
