import Derived.Test.Qxb6608909aDoorMisc
namespace Go.Proofs.Qxb6608909aDoor
open Go.RowKit
set_option linter.unusedSimpArgs false
set_option linter.unusedVariables false

theorem size5 : (Tryd.prog.info? 5).map (·.size) = some 1 := by kernel_rfl

/-- A row that was made full, as the heap holds it. -/
theorem made_row {w : World} {base e g n : Nat} {xs : List Value} (h : w.ownsRow base e 1 (.slice (some ⟨g, 0, none⟩) n n) n xs) : w.heap[g]? = some (.cells xs.toArray e (0, 0)) := by
  rcases h.2 with ⟨h', _⟩ | ⟨g', cap', cur, h', hb, hg, hnc, hcm, hcs, htake⟩
  · simp at h'
  · simp only [Value.slice.injEq, Option.some.injEq, Addr.mk.injEq, and_true, true_and] at h'
    obtain ⟨rfl, rfl⟩ := h'
    rw [List.take_of_length_le (by simp; omega)] at htake
    rw [← htake]
    simpa using hg

theorem any_own {w : World} {base e n : Nat} {v : Value} {xs : List Value} (h : w.ownsRow base e 1 v n xs) : ∃ Z, Z.length = n ∧ w.ownsRow base e 1 v n Z := ⟨xs, by rw [h.1, Nat.mul_one], h⟩

theorem own_row {w : World} {base g : Nat} {zs : List Int} (hb : base ≤ g) (hm : zs.length ≤ maxLen) (h : w.heap[g]? = some (.cells (cs8 zs).toArray 5 (0, 0))) : Owns w base (.slice (some ⟨g, 0, none⟩) zs.length zs.length) zs := by
  refine ⟨by rw [cs8_length, Nat.mul_one], .inr ⟨g, _, _, rfl, hb, h, Nat.le_refl _, hm, by simp [cs8_length], ?_⟩⟩
  have : (cs8 zs).toArray.toList = cs8 zs := by simp
  rw [this, Nat.mul_one]
  exact List.take_of_length_le (by rw [cs8_length]; exact Nat.le_refl _)

theorem Rd.src {w w1 : World} {x : Option Addr} {zs : List Int} (h : Rd w w.heap.size x zs) (hb : Below w.heap.size w w1) (hpos : 0 < (cs8 zs).length) :
    ∃ ad, x = some ad ∧ ∀ j v, (cs8 zs)[j]? = some v → w1.cell? (ad.add j) = some v := by
  rcases h with h | ⟨b, o, hx, hbB, hc⟩
  · rw [h] at hpos; simp [cs8] at hpos
  · exact ⟨_, hx, Rd.news (B := w.heap.size) (fun j hj => (hb.cell (p := ⟨b, o + j, none⟩) hbB).trans (hc j hj))⟩

theorem splice_all {α : Type} (L cs : List α) (h : cs.length = L.length) : splice L 0 cs = cs := by
  unfold splice
  rw [List.take_zero, List.nil_append, Nat.zero_add, List.drop_eq_nil_of_le (by omega), List.append_nil]

set_option maxHeartbeats 400000 in
theorem clone_nil (n c : Nat) (w : World) :
    Calls Tryd.prog 9 #[.slice none n c] w fun e w' => e = .returned (.slice none 0 0) ∧ w' = w := by
  have hn := fun w => Lib.run_eql_slice_nil (P := Tryd.prog) w 22 5 none n c 0 0 Tryd.underlying22
  go_enter Tryd.func9, Tryd.ntmps9
  go_wp2
  go_ret
  exact ⟨rfl, rfl⟩

set_option maxRecDepth 20000 in
set_option maxHeartbeats 1000000 in
theorem clone_some (x : Addr) (len cap : Nat) (zs : List Int) (w : World) (hz : zs.length = len) (hl : len ≤ 4194304) (hr : Rd w w.heap.size (some x) zs) :
    Calls Tryd.prog 9 #[.slice (some x) len cap] w fun e w' => e = .returned (.slice (some ⟨w.heap.size, 0, none⟩) len len) ∧ Owns w' w.heap.size (.slice (some ⟨w.heap.size, 0, none⟩) len len) zs ∧ Below w.heap.size w w' := by
  have hn := fun w => Lib.run_eql_slice_nil (P := Tryd.prog) w 22 5 (some x) len cap 0 0 Tryd.underlying22
  obtain ⟨i0, hi, hz0, hz1, hz2⟩ := info_parts info5
  have HR : Hid (Rd w w.heap.size (some x) zs) := hr
  have HZ : Hid (zs.length = len) := hz
  have HC : Hid ((cs8 zs).length = len) := by unfold Hid; rw [cs8_length]; exact hz
  clear hr hz
  go_enter Tryd.func9, Tryd.ntmps9
  go_wp2_with (first
    | (at_make; refine wpList_make_full _ rfl (.tmp 7) (.tmp 7) 22 rfl w.heap.size 5 i0 (.int .u8 0) 1 Tryd.underlying22 hi hz0 hz1 .i64 .i64 _ _ len rfl rfl rfl rfl (by rw [hz2]; omega) (by unfold maxLen; omega) (Nat.le_refl _) ?_; intro w1 hown hgrow; obtain ⟨Z, hZ, hown⟩ := any_own hown; have HZL := Hid.intro' hZ; have hb1 : Below w.heap.size w w1 := (Below.refl _ _).grown hgrow (Nat.le_refl _) (by intro k e; cases e); have hg1 := made_row hown; clear hown hgrow hZ)
    | (refine wpList_copy_splice (o := ⟨some 11, _, _, _, _, _⟩) rfl (.tmp 9) (.tmp 10) 22 22 rfl 5 Tryd.underlying22 size5 _ _ _ _ _ _ rfl rfl w.heap.size 0 Z 5 hg1 (cs8 zs) (by rw [HC.out]; simp [Nat.min_def]) (fun hpos => ⟨rfl, HR.out.src hb1 hpos⟩) (by rw [HC.out, HZL.out]; omega) (cs8_one zs) w.heap.size w hb1 (Nat.le_refl _) ?_; intro w2 HG2 hb2))
  go_ret
  refine ⟨rfl, ?_, hb2⟩
  have h := HG2.out
  rw [splice_all Z (cs8 zs) (by rw [HC.out, HZL.out])] at h
  have := own_row (base := w.heap.size) (Nat.le_refl _) (by rw [HZ.out]; unfold maxLen; omega) h
  rw [HZ.out] at this
  exact this

theorem clone_sl (v : Value) (zs : List Int) (w : World) (h : Sl w v zs) (hl : zs.length ≤ 4194304) :
    Calls Tryd.prog 9 #[v] w fun e w' => ∃ u, e = .returned u ∧ Owns w' w.heap.size u zs ∧ Below w.heap.size w w' := by
  obtain ⟨a, c, rfl, hr, hn, hc⟩ := h
  cases a with
  | none =>
    have hz : zs = [] := by
      rcases hr with h | ⟨b, o, h, _⟩
      · exact h
      · cases h
    subst hz
    refine (clone_nil _ _ w).mono ?_
    rintro e w' ⟨rfl, rfl⟩
    exact ⟨_, rfl, Owns.empty _ _, Below.refl _ _⟩
  | some x =>
    refine (clone_some x _ c zs w rfl hl hr).mono ?_
    rintro e w' ⟨rfl, ho, hb⟩
    exact ⟨_, rfl, ho, hb⟩

end Go.Proofs.Qxb6608909aDoor
