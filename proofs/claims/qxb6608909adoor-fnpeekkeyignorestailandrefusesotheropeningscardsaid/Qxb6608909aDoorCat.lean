import Derived.Test.Qxb6608909aDoorClone
namespace Go.Proofs.Qxb6608909aDoor
open Go.RowKit
set_option linter.unusedSimpArgs false
set_option linter.unusedVariables false

set_option maxRecDepth 20000 in
set_option maxHeartbeats 1000000 in
theorem cat2_any (x y : Option Addr) (la ca lb cb : Nat) (za zb : List Int) (w : World) (hla : za.length = la) (hlb : zb.length = lb) (ma : la ≤ 536870912) (mb : lb ≤ 4194304) (hx : Rd w w.heap.size x za) (hy : Rd w w.heap.size y zb) :
    Calls Tryd.prog 25 #[.slice x la ca, .slice y lb cb] w fun e w' => e = .returned (.slice (some ⟨w.heap.size, 0, none⟩) (la + lb) (la + lb)) ∧ Owns w' w.heap.size (.slice (some ⟨w.heap.size, 0, none⟩) (la + lb) (la + lb)) (za ++ zb) ∧ Below w.heap.size w w' := by
  obtain ⟨i0, hi, hz0, hz1, hz2⟩ := info_parts info5
  have HX : Hid (Rd w w.heap.size x za) := hx
  have HY : Hid (Rd w w.heap.size y zb) := hy
  have HA : Hid (za.length = la) := hla
  have HB : Hid (zb.length = lb) := hlb
  have CA : Hid ((cs8 za).length = la) := by unfold Hid; rw [cs8_length]; exact hla
  have CB : Hid ((cs8 zb).length = lb) := by unfold Hid; rw [cs8_length]; exact hlb
  clear hx hy hla hlb
  have fin : ∀ Z w2, Z.length = la + lb → w2.heap[w.heap.size]? = some (.cells (splice (splice Z 0 (cs8 za)) la (cs8 zb)).toArray 5 (0, 0)) → Owns w2 w.heap.size (.slice (some ⟨w.heap.size, 0, none⟩) (la + lb) (la + lb)) (za ++ zb) := by
    intro Z w2 hZl h
    have e : splice (splice Z 0 (cs8 za)) la (cs8 zb) = cs8 (za ++ zb) := by
      have h1 : splice Z 0 (cs8 za) = cs8 za ++ Z.drop la := by
        unfold splice; rw [List.take_zero, List.nil_append, Nat.zero_add, CA.out]
      rw [h1, cs8_append]
      unfold splice
      rw [List.take_left' CA.out, List.drop_eq_nil_of_le (by rw [List.length_append, List.length_drop, CA.out, CB.out, hZl]; omega), List.append_nil]
    rw [e] at h
    have := own_row (base := w.heap.size) (Nat.le_refl _) (by rw [List.length_append, HA.out, HB.out]; unfold maxLen; omega) h
    rw [List.length_append, HA.out, HB.out] at this
    exact this
  have HF := Hid.intro' fin
  clear fin
  go_enter Tryd.func25, Tryd.ntmps25
  go_wp2_with (first
    | (at_make; refine wpList_make_full _ rfl (.tmp 10) (.tmp 10) 22 rfl w.heap.size 5 i0 (.int .u8 0) 1 Tryd.underlying22 hi hz0 hz1 .i64 .i64 _ _ (la + lb) rfl rfl (by omega) (by omega) (by rw [hz2]; omega) (by unfold maxLen; omega) (Nat.le_refl _) ?_; intro w1 hown hgrow; obtain ⟨Z, hZ, hown⟩ := any_own hown; have HZL := Hid.intro' hZ; have hb1 : Below w.heap.size w w1 := (Below.refl _ _).grown hgrow (Nat.le_refl _) (by intro k e; cases e); have hg1 := made_row hown; clear hown hgrow hZ)
    | (refine wpList_copy_splice (o := ⟨some 14, _, _, _, _, _⟩) rfl (.tmp 12) (.tmp 13) 22 22 rfl 5 Tryd.underlying22 size5 _ _ _ _ _ _ rfl rfl w.heap.size 0 Z 5 hg1 (cs8 za) (by rw [CA.out]; simp [Nat.min_def]) (fun hpos => ⟨rfl, HX.out.src hb1 hpos⟩) (by rw [CA.out, HZL.out]; omega) (cs8_one za) w.heap.size w hb1 (Nat.le_refl _) ?_; intro w2 HG2 hb2; have HG2l : (splice Z 0 (cs8 za)).length = la + lb := (by rw [length_splice _ _ _ (by rw [CA.out, HZL.out]; omega), HZL.out]); obtain ⟨Z2, hZ2⟩ : ∃ Z2, splice Z 0 (cs8 za) = Z2 := ⟨_, rfl⟩; have HF2 := Hid.intro' (fun w3 => HF.out Z w3 HZL.out); rw [hZ2] at HG2 HG2l HF2; clear hZ2 hg1)
    | (refine wpList_copy_splice (o := ⟨some 20, _, _, _, _, _⟩) rfl (.tmp 18) (.tmp 19) 22 22 rfl 5 Tryd.underlying22 size5 _ _ _ _ _ _ rfl rfl w.heap.size la Z2 5 HG2.out (cs8 zb) (by rw [CB.out]; simp [Nat.min_def]; try omega) (fun hpos => ⟨(by rw [CB.out] at hpos; first | rfl | (exfalso; omega) | (simp; omega)), HY.out.src hb2 hpos⟩) (by rw [CB.out, HG2l]; omega) (cs8_one zb) w.heap.size w hb2 (Nat.le_refl _) ?_; intro w3 HG3 hb3; have hf := HF2.out w3 HG3.out))
  all_goals
    go_ret
    first
      | exact ⟨rfl, hf, hb3⟩
      | (have e : la + lb = la := by omega
         rw [e] at hf
         exact ⟨rfl, hf, hb3⟩)
end Go.Proofs.Qxb6608909aDoor
