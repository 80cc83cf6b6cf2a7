import Derived.Test.Qxb6608688aIndent
namespace Go.Proofs.Qxb6608688a
open Go.RowKit
set_option linter.unusedSimpArgs false
set_option linter.unusedVariables false

theorem rd_two (w : World) (p q : Int) : Rd (w.alloc (.cells #[.int .u8 p, .int .u8 q] 5)) (w.heap.size + 1) (some ⟨w.heap.size, 0, none⟩) [p, q] := by
  refine .inr ⟨w.heap.size, 0, rfl, by omega, fun j hj => ?_⟩
  match j, hj with
  | 0, _ => simp
  | 1, _ => simp

theorem Owns.alloc {w : World} {base : Nat} {v : Value} {zs : List Int} (h : Owns w base v zs) (o : Obj) : Owns (w.alloc o) base v zs := World.ownsRow.alloc h o

theorem Wr.below {w w' : World} {b B : Nat} {v : Value} (h : Wr w b v) (hb : Below B w w') (hB : b < B) : Wr w' b v := by
  obtain ⟨r, h⟩ := h
  exact ⟨r, (hb.block b hB).trans h⟩

theorem Wr.alloc {w : World} {b : Nat} {v : Value} (h : Wr w b v) (o : Obj) : Wr (w.alloc o) b v :=
  h.below ((Below.refl w.heap.size w).alloc (Nat.le_refl _) o) h.lt

set_option maxHeartbeats 1000000 in
theorem head_any (b base : Nat) (d l : Int) (name : ByteArray) (v : Value) (zs : List Int) (w : World) (B : Nat) (d0 : -65536 ≤ d) (d1 : d ≤ 65536) (hl : zs.length ≤ 2097152) (hnm : name.size ≤ 1048576) (hB : B ≤ base) (hBb : B ≤ b) (hbs : base ≤ w.heap.size) (hw : Wr w b v) (ho : Owns w base v zs) :
    Calls Try.prog 11 #[.pointer (some ⟨b, 0, none⟩), .int .i64 d, .int .u8 l, .string name] w fun e w' => e = .returned (.tuple #[]) ∧ (∃ v', Wr w' b v' ∧ Owns w' base v' (zs ++ List.replicate (4 * d).toNat 32 ++ [l, 32] ++ sb name)) ∧ Below B w w' := by
  obtain ⟨i0, hi, hz0, hz1, hz2⟩ := info_parts info5
  go_enter Try.func11, Try.ntmps11
  go_wp2_with fail
  refine (indent_any b base d v zs w B d0 d1 (by omega) hB hBb hbs hw ho).mono ?_
  rintro e w1 ⟨rfl, ⟨v1, hw1, ho1⟩, hb1⟩
  have LY : Hid ((zs ++ List.replicate (4 * d).toNat 32).length ≤ 4194304) := by
    unfold Hid; rw [List.length_append, List.length_replicate]; omega
  obtain ⟨ys, hys⟩ : ∃ ys, zs ++ List.replicate (4 * d).toNat 32 = ys := ⟨_, rfl⟩
  rw [hys] at ho1 LY
  have HY : Hid (zs ++ List.replicate (4 * d).toNat 32 = ys) := hys
  clear hys
  have hs1 := hb1.size
  have hc1 := hw1.cell
  have hf1 := hw1.frozen
  have hwa := hw1.alloc (.cells #[.int .u8 l, .int .u8 32] 5)
  have hoa := ho1.alloc (.cells #[.int .u8 l, .int .u8 32] 5)
  have hba : Below B w (w1.alloc (.cells #[.int .u8 l, .int .u8 32] 5)) := hb1.alloc (by omega) _
  clear hw ho
  go_wp2_with (first
    | (at_builtin; refine wpList_append_rd _ rfl (.tmp 16) (.tmp 18) 22 rfl base i0 Try.underlying22 hi hz0 hz1 hz2 v1 ys rfl hoa (some ⟨w1.heap.size, 0, none⟩) 2 2 _ [l, 32] rfl rfl (by intro e; cases e) (rd_two w1 l 32) (by have := LY.out; omega) (by simp; omega) ?_; intro v2 w2 ho2 hg2; have hw2 := hwa.grown hoa hg2; have hb2 := hba.trans (below_grown hg2 hoa hB (by simp; omega)); have hc2 := hw2.cell; have hf2 := hw2.frozen; obtain ⟨a2, L2, c2, hv2⟩ := slice_form ho2; subst hv2; have hw3 := hw2.set (.slice a2 L2 c2); have ho3 := hw2.owns (x := .slice a2 L2 c2) ho2; have hb3 := hb2.setCell (p := ⟨b, 0, none⟩) hBb (.slice a2 L2 c2); have hs3 := hb3.size)
    | (at_builtin; refine wpList_append_str _ rfl (.tmp 28) (.tmp 29) 22 9 rfl base i0 Try.underlying22 Try.underlying9 hi hz0 hz1 hz2 (.slice a2 L2 c2) (ys ++ [l, 32]) rfl ho3 name rfl (by have := LY.out; simp; omega) (by omega) ?_; intro v4 w4 ho4 hg4; have hw4 := hw3.grown ho3 hg4; have hb4 := hb3.trans (below_grown hg4 ho3 hB (by omega)); have hc4 := hw4.cell; have hf4 := hw4.frozen; obtain ⟨a4, L4, c4, hv4⟩ := slice_form ho4; subst hv4))
  go_end0
  exact ⟨rfl, ⟨_, hw4.set _, by rw [HY.out]; exact hw4.owns ho4⟩, hb4.setCell hBb _⟩

set_option maxHeartbeats 1000000 in
theorem zhead_any (base : Nat) (d l : Int) (name : ByteArray) (v : Value) (zs : List Int) (w : World) (B : Nat) (d0 : -65536 ≤ d) (d1 : d ≤ 65536) (hl : zs.length ≤ 2097152) (hnm : name.size ≤ 1048576) (hB : B ≤ base) (hbs : base ≤ w.heap.size) (ho : Owns w base v zs) :
    Calls Try.prog 7 #[v, .int .i64 d, .int .u8 l, .string name] w fun e w' => (∃ v', e = .returned v' ∧ Owns w' base v' (zs ++ List.replicate (4 * d).toNat 32 ++ [l, 32] ++ sb name)) ∧ Below B w w' := by
  obtain ⟨a, L, c, rfl⟩ := slice_form ho
  go_enter Try.func7, Try.ntmps7
  go_wp2_with fail
  have hw1 : Wr (w.alloc (.cells #[.slice a L c, .nilIface, .bool false, .int .i64 0, .slice none 0 0, .slice none 0 0, .int .u64 0] 40)) w.heap.size (.slice a L c) :=
    ⟨[.nilIface, .bool false, .int .i64 0, .slice none 0 0, .slice none 0 0, .int .u64 0], heap_alloc_new w _⟩
  have ho1 := ho.alloc (.cells #[.slice a L c, .nilIface, .bool false, .int .i64 0, .slice none 0 0, .slice none 0 0, .int .u64 0] 40)
  refine (head_any w.heap.size base d l name (.slice a L c) zs _ B d0 d1 hl hnm hB (by omega) (by simp; omega) hw1 ho1).mono ?_
  rintro e w1 ⟨rfl, ⟨v1, hw2, ho2⟩, hb⟩
  have hc2 := hw2.cell
  obtain ⟨a2, L2, c2, rfl⟩ := slice_form ho2
  clear ho hw1 ho1
  go_wp2
  go_ret
  exact ⟨⟨_, rfl, ho2⟩, ((Below.refl B w).alloc (by omega) _).trans hb⟩
end Go.Proofs.Qxb6608688a
