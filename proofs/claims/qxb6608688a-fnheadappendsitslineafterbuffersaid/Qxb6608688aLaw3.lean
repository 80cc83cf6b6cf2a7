import Derived.Test.Qxb6608688aSl
namespace Go.Proofs.Qxb6608688a
open Go.RowKit
set_option linter.unusedSimpArgs false
set_option linter.unusedVariables false

theorem rd_one (w : World) (p : Int) : Rd (w.alloc (.cells #[.int .u8 p] 5)) (w.heap.size + 1) (some ⟨w.heap.size, 0, none⟩) [p] := by
  refine .inr ⟨w.heap.size, 0, rfl, by omega, fun j hj => ?_⟩
  match j, hj with
  | 0, _ => simp

theorem rep_succ (k : Nat) : List.replicate k (32 : Int) ++ [32] = List.replicate (k + 1) 32 := by
  rw [List.replicate_succ']

set_option maxHeartbeats 2000000 in
theorem law3_pos (a : Option Addr) (len cap : Nat) (zs : List Int) (d l : Int) (name : ByteArray) (w : World) (hz : zs.length = len) (hl : len + name.size ≤ 1048576) (d0 : -65536 ≤ d) (d1 : d ≤ 65536) (hd : 0 < d) (hs : Sl w (.slice a len cap) zs) :
    Calls Try.prog 3 #[.slice a len cap, .int .i64 d, .int .u8 l, .string name] w fun e w' => e = .returned (.bool true) ∧ Below w.heap.size w w' := by
  obtain ⟨i0, hi, hz0, hz1, hz2⟩ := info_parts info5
  have HL : Hid (zs.length = len) := hz
  have HLL : Hid ((line d l name).length = (4 * d).toNat + 2 + name.size) := line_length d l name
  clear hz
  go_enter Try.func3, Try.ntmps3
  go_wp2_with fail
  refine (bytes5_yes a len cap d l name w hl).mono ?_
  rintro e w0 ⟨rfl, hw0⟩
  rw [hw0]
  clear hw0 w0
  go_wp2_with fail
  refine (clone_sl _ zs w hs (by rw [HL.out]; omega)).mono ?_
  rintro e w1 ⟨buf, rfl, ho1, hb1⟩
  have sb1 := ho1.sl
  have LB : Hid (zs.length ≤ 1048576) := by have := HL.out; unfold Hid; omega
  clear hs ho1
  go_wp2_with fail
  refine (clone_sl buf zs w1 sb1 (by have := LB.out; omega)).mono ?_
  rintro e w2 ⟨c2, rfl, ho2, hb2⟩
  go_wp2_with fail
  refine (zhead_sl w1.heap.size d l name c2 zs w2 w1.heap.size d0 d1 (by have := LB.out; omega) (by omega) (Nat.le_refl _) hb2.size ho2).mono ?_
  rintro e w3 ⟨⟨got, rfl, sg3⟩, hb3⟩
  have hb13 := hb2.trans hb3
  have sb3 := sb1.below hb13
  have B3 := hb1.trans (hb13.mono hb1.size)
  have z1 := B3.size
  clear sb1 ho2 hb2 hb3 hb13 hb1
  go_wp2_with fail
  refine (zhead_sl w3.heap.size d l name (.slice none 0 0) [] w3 w3.heap.size d0 d1 (by simp) (by omega) (Nat.le_refl _) (Nat.le_refl _) (Owns.empty _ _)).mono ?_
  rintro e w4 ⟨⟨alone, rfl, sa4⟩, hb4⟩
  have sb4 := sb3.below hb4
  have sg4 := sg3.below hb4
  have B4 := B3.trans (hb4.mono z1)
  rw [List.nil_append] at sa4
  clear sb3 sg3 B3 hb4 z1
  go_wp2_with (at_make; refine wpList_make_own _ rfl (.const (.int .i64 0)) (.tmp 55) 22 rfl w4.heap.size 5 i0 (.int .u8 0) 1 Try.underlying22 hi hz0 hz1 .i64 .i64 _ ((4 * d : Int).toNat + 2 + name.size) rfl rfl (by omega) (by rw [hz2]; omega) (by unfold maxLen; omega) (Nat.le_refl _) ?_; intro w5 hown hgrow; have hb5 : Below w4.heap.size w4 w5 := (Below.refl _ _).grown hgrow (Nat.le_refl _) (by intro k e; cases e); have ho5 : Owns w5 w4.heap.size (.slice (some ⟨w4.heap.size, 0, none⟩) 0 ((4 * d : Int).toNat + 2 + name.size)) [] := hown; clear hown hgrow)
  go_loopw [12, 13] (fun v i wr => ∃ k : Nat, (k : Int) ≤ 4 * d ∧ i = .int .i64 k ∧ Owns wr w4.heap.size v (List.replicate k 32) ∧ Below w4.heap.size w4 wr) (fun _ i _ => (4 * d - intOf i).toNat)
  case atStart => exact ⟨0, by omega, rfl, ho5, hb5⟩
  case round =>
    clear ho5 hb5
    obtain ⟨k, hk, rfl, ho, hb⟩ := hrel
    have hsz := hb.size
    by_cases hlt : (k : Int) < 4 * d
    · have hoa := ho.alloc (.cells #[.int .u8 32] 5)
      have LR : Hid ((List.replicate k (32 : Int)).length + 1 ≤ 140737488355328) := by unfold Hid; rw [List.length_replicate]; omega
      go_wp2_with (at_builtin; refine wpList_append_rd _ rfl (.tmp 62) (.tmp 63) 22 rfl w4.heap.size i0 Try.underlying22 hi hz0 hz1 hz2 _ (List.replicate k 32) rfl hoa (some ⟨wr.heap.size, 0, none⟩) 1 1 _ [32] rfl rfl (by intro e; cases e) (rd_one wr 32) LR.out (by simp; omega) ?_; intro v6 w6 ho6 hg6; have hb6 := (hb.alloc hsz (.cells #[.int .u8 32] 5)).trans (below_grown hg6 hoa (Nat.le_refl _) (by simp; omega)); rw [rep_succ] at ho6)
      go_roundw
      case rel => exact ⟨k + 1, by omega, by go_num, ho6, hb6⟩
      case measure => simp [intOf]; omega
    · obtain rfl : (4 * d).toNat = k := by omega
      have hoa := ho.alloc (.cells #[.int .u8 l, .int .u8 32] 5)
      have hba : Below w4.heap.size w4 (wr.alloc (.cells #[.int .u8 l, .int .u8 32] 5)) := hb.alloc hsz _
      have LR : Hid ((List.replicate (4 * d).toNat (32 : Int)).length + 2 ≤ 140737488355328) := by unfold Hid; rw [List.length_replicate]; omega
      have LS : Hid ((List.replicate (4 * d).toNat (32 : Int) ++ [l, 32]).length + name.size ≤ 140737488355328) := by unfold Hid; rw [List.length_append, List.length_replicate]; simp; omega
      go_wp2_with (first
        | (at_builtin; refine wpList_append_rd _ rfl (.tmp 65) (.tmp 67) 22 rfl w4.heap.size i0 Try.underlying22 hi hz0 hz1 hz2 _ (List.replicate (4 * d).toNat 32) rfl hoa (some ⟨wr.heap.size, 0, none⟩) 2 2 _ [l, 32] rfl rfl (by intro e; cases e) (rd_two wr l 32) LR.out (by simp; omega) ?_; intro v6 w6 ho6 hg6; have hb6 := hba.trans (below_grown hg6 hoa (Nat.le_refl _) (by simp; omega)); have hs6 := hb6.size)
        | (at_builtin; refine wpList_append_str _ rfl (.tmp 69) (.tmp 70) 22 9 rfl w4.heap.size i0 Try.underlying22 Try.underlying9 hi hz0 hz1 hz2 v6 (List.replicate (4 * d).toNat 32 ++ [l, 32]) rfl ho6 name rfl LS.out hs6 ?_; intro v7 w7 ho7 hg7; have hb7 := hb6.trans (below_grown hg7 ho6 (Nat.le_refl _) hs6)))
      have sl7 : Sl w7 v7 (line d l name) := ho7.sl
      have sa7 := sa4.below hb7
      have sb7 := sb4.below hb7
      have sg7 := sg4.below hb7
      have B7 := B4.trans (hb7.mono B4.size)
      clear ho7 hg7 ho6 hg6 hoa hba ho hb hb6 hb7 sa4 sb4 sg4
      refine (eq_sl alone v7 (line d l name) (line d l name) w7 sa7 sl7 (by rw [HLL.out]; omega) (by rw [HLL.out]; omega)).mono ?_
      rw [decide_eq_true rfl]
      rintro e w8 ⟨rfl, hb8⟩
      have sa8 := sa7.below hb8
      have sb8 := sb7.below hb8
      have sg8 := sg7.below hb8
      have B8 := B7.trans (hb8.mono B7.size)
      clear sa7 sb7 sg7 sl7 hb8
      go_wp2_with fail
      refine (concat_sl buf alone zs (line d l name) w8 sb8 sa8 (by have := LB.out; omega) (by rw [HLL.out]; omega)).mono ?_
      rintro e w9 ⟨cat, rfl, sc9, hb9⟩
      have sg9 := sg8.below hb9
      have B9 := B8.trans (hb9.mono B8.size)
      go_wp2_with fail
      refine (eq_sl got cat _ _ w9 sg9 sc9 (by rw [List.length_append, HLL.out]; have := LB.out; omega) (by rw [List.length_append, HLL.out]; have := LB.out; omega)).mono ?_
      rw [decide_eq_true rfl]
      rintro e w10 ⟨rfl, hb10⟩
      go_wp2_with fail
      go_ret
      exact ⟨by simp, B9.trans (hb10.mono B9.size)⟩

set_option maxHeartbeats 2000000 in
theorem law3_neg (a : Option Addr) (len cap : Nat) (zs : List Int) (d l : Int) (name : ByteArray) (w : World) (hz : zs.length = len) (hl : len + name.size ≤ 1048576) (d0 : -65536 ≤ d) (d1 : d ≤ 65536) (hd : ¬ 0 < d) (hs : Sl w (.slice a len cap) zs) :
    Calls Try.prog 3 #[.slice a len cap, .int .i64 d, .int .u8 l, .string name] w fun e w' => e = .returned (.bool true) ∧ Below w.heap.size w w' := by
  obtain ⟨i0, hi, hz0, hz1, hz2⟩ := info_parts info5
  have HL : Hid (zs.length = len) := hz
  have HLL : Hid ((line d l name).length = (4 * d).toNat + 2 + name.size) := line_length d l name
  clear hz
  go_enter Try.func3, Try.ntmps3
  go_wp2_with fail
  refine (bytes5_yes a len cap d l name w hl).mono ?_
  rintro e w0 ⟨rfl, hw0⟩
  rw [hw0]
  clear hw0 w0
  go_wp2_with fail
  refine (clone_sl _ zs w hs (by rw [HL.out]; omega)).mono ?_
  rintro e w1 ⟨buf, rfl, ho1, hb1⟩
  have sb1 := ho1.sl
  have LB : Hid (zs.length ≤ 1048576) := by have := HL.out; unfold Hid; omega
  clear hs ho1
  go_wp2_with fail
  refine (clone_sl buf zs w1 sb1 (by have := LB.out; omega)).mono ?_
  rintro e w2 ⟨c2, rfl, ho2, hb2⟩
  go_wp2_with fail
  refine (zhead_sl w1.heap.size d l name c2 zs w2 w1.heap.size d0 d1 (by have := LB.out; omega) (by omega) (Nat.le_refl _) hb2.size ho2).mono ?_
  rintro e w3 ⟨⟨got, rfl, sg3⟩, hb3⟩
  have hb13 := hb2.trans hb3
  have sb3 := sb1.below hb13
  have B3 := hb1.trans (hb13.mono hb1.size)
  have z1 := B3.size
  clear sb1 ho2 hb2 hb3 hb13 hb1
  go_wp2_with fail
  refine (zhead_sl w3.heap.size d l name (.slice none 0 0) [] w3 w3.heap.size d0 d1 (by simp) (by omega) (Nat.le_refl _) (Nat.le_refl _) (Owns.empty _ _)).mono ?_
  rintro e w4 ⟨⟨alone, rfl, sa4⟩, hb4⟩
  have sb4 := sb3.below hb4
  have sg4 := sg3.below hb4
  have B4 := B3.trans (hb4.mono z1)
  rw [List.nil_append] at sa4
  clear sb3 sg3 B3 hb4 z1
  go_wp2_with (at_make; refine wpList_make_own _ rfl (.const (.int .i64 0)) (.tmp 55) 22 rfl w4.heap.size 5 i0 (.int .u8 0) 1 Try.underlying22 hi hz0 hz1 .i64 .i64 _ ((0 : Int).toNat + 2 + name.size) rfl rfl (by omega) (by rw [hz2]; omega) (by unfold maxLen; omega) (Nat.le_refl _) ?_; intro w5 hown hgrow; have hb5 : Below w4.heap.size w4 w5 := (Below.refl _ _).grown hgrow (Nat.le_refl _) (by intro k e; cases e); have ho5 : Owns w5 w4.heap.size (.slice (some ⟨w4.heap.size, 0, none⟩) 0 ((0 : Int).toNat + 2 + name.size)) [] := hown; clear hown hgrow)
  go_loopw [12, 13] (fun v i wr => ∃ k : Nat, (k : Int) ≤ 0 ∧ i = .int .i64 k ∧ Owns wr w4.heap.size v (List.replicate k 32) ∧ Below w4.heap.size w4 wr) (fun _ i _ => (0 - intOf i).toNat)
  case atStart => exact ⟨0, by omega, rfl, ho5, hb5⟩
  case round =>
    clear ho5 hb5
    obtain ⟨k, hk, rfl, ho, hb⟩ := hrel
    have hsz := hb.size
    by_cases hlt : (k : Int) < 0
    · omega
    · obtain rfl : (4 * d).toNat = k := by omega
      have hoa := ho.alloc (.cells #[.int .u8 l, .int .u8 32] 5)
      have hba : Below w4.heap.size w4 (wr.alloc (.cells #[.int .u8 l, .int .u8 32] 5)) := hb.alloc hsz _
      have LR : Hid ((List.replicate (4 * d).toNat (32 : Int)).length + 2 ≤ 140737488355328) := by unfold Hid; rw [List.length_replicate]; omega
      have LS : Hid ((List.replicate (4 * d).toNat (32 : Int) ++ [l, 32]).length + name.size ≤ 140737488355328) := by unfold Hid; rw [List.length_append, List.length_replicate]; simp; omega
      go_wp2_with (first
        | (at_builtin; refine wpList_append_rd _ rfl (.tmp 65) (.tmp 67) 22 rfl w4.heap.size i0 Try.underlying22 hi hz0 hz1 hz2 _ (List.replicate (4 * d).toNat 32) rfl hoa (some ⟨wr.heap.size, 0, none⟩) 2 2 _ [l, 32] rfl rfl (by intro e; cases e) (rd_two wr l 32) LR.out (by simp; omega) ?_; intro v6 w6 ho6 hg6; have hb6 := hba.trans (below_grown hg6 hoa (Nat.le_refl _) (by simp; omega)); have hs6 := hb6.size)
        | (at_builtin; refine wpList_append_str _ rfl (.tmp 69) (.tmp 70) 22 9 rfl w4.heap.size i0 Try.underlying22 Try.underlying9 hi hz0 hz1 hz2 v6 (List.replicate (4 * d).toNat 32 ++ [l, 32]) rfl ho6 name rfl LS.out hs6 ?_; intro v7 w7 ho7 hg7; have hb7 := hb6.trans (below_grown hg7 ho6 (Nat.le_refl _) hs6)))
      have sl7 : Sl w7 v7 (line d l name) := ho7.sl
      have sa7 := sa4.below hb7
      have sb7 := sb4.below hb7
      have sg7 := sg4.below hb7
      have B7 := B4.trans (hb7.mono B4.size)
      clear ho7 hg7 ho6 hg6 hoa hba ho hb hb6 hb7 sa4 sb4 sg4
      refine (eq_sl alone v7 (line d l name) (line d l name) w7 sa7 sl7 (by rw [HLL.out]; omega) (by rw [HLL.out]; omega)).mono ?_
      rw [decide_eq_true rfl]
      rintro e w8 ⟨rfl, hb8⟩
      have sa8 := sa7.below hb8
      have sb8 := sb7.below hb8
      have sg8 := sg7.below hb8
      have B8 := B7.trans (hb8.mono B7.size)
      clear sa7 sb7 sg7 sl7 hb8
      go_wp2_with fail
      refine (concat_sl buf alone zs (line d l name) w8 sb8 sa8 (by have := LB.out; omega) (by rw [HLL.out]; omega)).mono ?_
      rintro e w9 ⟨cat, rfl, sc9, hb9⟩
      have sg9 := sg8.below hb9
      have B9 := B8.trans (hb9.mono B8.size)
      go_wp2_with fail
      refine (eq_sl got cat _ _ w9 sg9 sc9 (by rw [List.length_append, HLL.out]; have := LB.out; omega) (by rw [List.length_append, HLL.out]; have := LB.out; omega)).mono ?_
      rw [decide_eq_true rfl]
      rintro e w10 ⟨rfl, hb10⟩
      go_wp2_with fail
      go_ret
      exact ⟨by simp, B9.trans (hb10.mono B9.size)⟩
end Go.Proofs.Qxb6608688a
