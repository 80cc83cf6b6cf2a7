import Derived.Test.Qxb6608688aBytes
import Derived.Test.Qxb6608688aApp
import Derived.Deep.RegionLaw
import Derived.WalkLawsBesides
namespace Go.Proofs.Qxb6608688a
open Go.RowKit
set_option linter.unusedSimpArgs false
set_option linter.unusedVariables false

/-- The writer at block b holds the buffer v. -/
def Wr (w : World) (b : Nat) (v : Value) : Prop := ∃ rest : List Value, w.heap[b]? = some (.cells (v :: rest).toArray 40 (0, 0))

theorem Wr.cell {w : World} {b : Nat} {v : Value} (h : Wr w b v) : w.cell? ⟨b, 0, none⟩ = some v := by
  obtain ⟨r, h⟩ := h
  rw [cell_of_row w b 0 _ 40 (0, 0) h]; simp
theorem Wr.frozen {w : World} {b : Nat} {v : Value} (h : Wr w b v) : w.frozen? ⟨b, 0, none⟩ = false := by
  obtain ⟨r, h⟩ := h
  exact frozen_of_row w b 0 _ 40 h
theorem Wr.set {w : World} {b : Nat} {v : Value} (h : Wr w b v) (u : Value) : Wr (w.setCell ⟨b, 0, none⟩ u) b u := by
  obtain ⟨r, h⟩ := h
  refine ⟨r, ?_⟩
  rw [heap_setCell_same w b 0 _ 40 u h]; simp
theorem Wr.lt {w : World} {b : Nat} {v : Value} (h : Wr w b v) : b < w.heap.size := by
  obtain ⟨r, h⟩ := h
  exact (Array.getElem?_eq_some_iff.1 h).1
theorem Wr.apart {w : World} {b base : Nat} {v u : Value} {zs : List Int} (h : Wr w b v) (ho : Owns w base u zs) : some b ≠ u.ownBlock := by
  obtain ⟨r, h⟩ := h
  rcases ho.2 with ⟨h1, _⟩ | ⟨g, cap, cur, rfl, _, hg, _⟩
  · rw [h1]; simp [Value.ownBlock]
  · intro e
    simp [Value.ownBlock] at e
    subst e
    rw [hg] at h
    simp at h
theorem Wr.grown {w w' : World} {b base : Nat} {v u : Value} {zs : List Int} (h : Wr w b v) (ho : Owns w base u zs) (hg : w.grownBy w' u.ownBlock) : Wr w' b v := by
  have hne := h.apart ho
  have hlt := h.lt
  obtain ⟨r, h⟩ := h
  exact ⟨r, (hg.block b hlt hne).trans h⟩
theorem Wr.owns {w : World} {b base : Nat} {v u x : Value} {zs : List Int} (h : Wr w b v) (ho : Owns w base u zs) : Owns (w.setCell ⟨b, 0, none⟩ x) base u zs := by
  have hne := h.apart ho
  refine ⟨ho.1, ?_⟩
  rcases ho.2 with h1 | ⟨g, cap, cur, rfl, hb, hg, rest⟩
  · exact .inl h1
  · refine .inr ⟨g, cap, cur, rfl, hb, ?_, rest⟩
    rw [heap_setCell_other w ⟨b, 0, none⟩ g x (by intro e; apply hne; simp [Value.ownBlock, e])]
    exact hg

theorem sp_take : ∀ m, m < 65 → sb (ByteArray.extract ⟨#[32, 32, 32, 32, 32, 32, 32, 32, 32, 32, 32, 32, 32, 32, 32, 32, 32, 32, 32, 32, 32, 32, 32, 32, 32, 32, 32, 32, 32, 32, 32, 32, 32, 32, 32, 32, 32, 32, 32, 32, 32, 32, 32, 32, 32, 32, 32, 32, 32, 32, 32, 32, 32, 32, 32, 32, 32, 32, 32, 32, 32, 32, 32, 32]⟩ 0 m) = List.replicate m 32 := by decide +kernel

theorem slice_form {w : World} {base : Nat} {v : Value} {zs : List Int} (h : Owns w base v zs) : ∃ a L c, v = .slice a L c := by
  obtain ⟨a, c, hv, _, _⟩ := h.form
  exact ⟨a, _, c, hv⟩

theorem indent_step {zs ys : List Int} {d n : Int} {m : Nat} (hy : zs ++ List.replicate ((4 * d).toNat - n.toNat) 32 = ys) (hn : 0 < n) (hd : n ≤ 4 * d) (hm : m = (if 64 < n then 64 else n.toNat)) :
    ys ++ List.replicate m 32 = zs ++ List.replicate ((4 * d).toNat - (n - 64).toNat) 32 := by
  rw [← hy, List.append_assoc, List.replicate_append_replicate]
  congr 2
  split at hm <;> omega

set_option maxHeartbeats 1000000 in
theorem indent_any (b base : Nat) (d : Int) (v : Value) (zs : List Int) (w : World) (B : Nat) (d0 : -65536 ≤ d) (d1 : d ≤ 65536) (hl : zs.length ≤ 4194304) (hB : B ≤ base) (hBb : B ≤ b) (hbs : base ≤ w.heap.size) (hw : Wr w b v) (ho : Owns w base v zs) :
    Calls Try.prog 12 #[.pointer (some ⟨b, 0, none⟩), .int .i64 d] w fun e w' => e = .returned (.tuple #[]) ∧ (∃ v', Wr w' b v' ∧ Owns w' base v' (zs ++ List.replicate (4 * d).toNat 32)) ∧ Below B w w' := by
  obtain ⟨i0, hi, hz0, hz1, hz2⟩ := info_parts info5
  go_enter Try.func12, Try.ntmps12
  go_wp2
  go_loopw [4] (fun i wr => ∃ n : Int, i = .int .i64 n ∧ n ≤ 4 * d ∧ -262208 ≤ n ∧ (∃ v', Wr wr b v' ∧ Owns wr base v' (zs ++ List.replicate ((4 * d).toNat - n.toNat) 32)) ∧ Below B w wr) (fun i _ => (intOf i).toNat)
  case atStart => exact ⟨_, rfl, by omega, by omega, ⟨v, hw, by rw [Int.mul_comm d 4, Nat.sub_self, List.replicate_zero, List.append_nil]; exact ho⟩, Below.refl _ _⟩
  case round =>
    clear hw ho
    obtain ⟨n, rfl, hn1, hn2, ⟨v', hw, ho⟩, hb⟩ := hrel
    have hs := hb.size
    by_cases hpos : 0 < n
    · have hc := hw.cell
      have hf := hw.frozen
      have hn0 : 0 ≤ n := by omega
      have LO : Hid ((zs ++ List.replicate ((4 * d).toNat - n.toNat) 32).length + 64 ≤ 140737488355328) := by
        unfold Hid; rw [List.length_append, List.length_replicate]; omega
      obtain ⟨ys, hys⟩ : ∃ ys, zs ++ List.replicate ((4 * d).toNat - n.toNat) 32 = ys := ⟨_, rfl⟩
      rw [hys] at ho LO
      have HYS : Hid (zs ++ List.replicate ((4 * d).toNat - n.toNat) 32 = ys) := hys
      clear hys
      have hod := ho.drew
      have hwd : Wr wr.drew b v' := hw
      have hbd : base ≤ wr.drew.heap.size := by show base ≤ wr.heap.size; omega
      by_cases h64 : 64 < n
      · go_wp2
        go_region_law ((refine step_append_str _ (by rfl) (.tmp 16) (.tmp 19) 22 9 (by rfl) base i0 Try.underlying22 Try.underlying9 hi hz0 hz1 hz2 v' ys (by rfl) hod _ (by rfl) ?_ hbd ?_; (have := LO.out; simp; omega); intro v1 w1 ho1 hg1; have hw1 := hwd.grown hod hg1; have hc1 := hw1.cell; have hf1 := hw1.frozen; obtain ⟨a1, L1, c1, hv1⟩ := slice_form ho1; subst hv1; rw [sp_take 64 (by decide), indent_step HYS.out hpos hn1 (by rw [if_pos h64])] at ho1))
        all_goals
          go_wp2
          go_roundw
          case rel => exact ⟨n - 64, rfl, by omega, by omega, ⟨_, hw1.set _, hw1.owns ho1⟩, ((hb.drew).trans (below_grown hg1 hod hB hbd)).setCell hBb _⟩
          case measure => simp [intOf]; omega
      · have h64' : n ≤ 64 := by omega
        have hf64 : (64 < n) = False := by simp; omega
        clear h64
        go_wp2
        go_region_law ((refine step_append_str _ (by rfl) (.tmp 16) (.tmp 19) 22 9 (by rfl) base i0 Try.underlying22 Try.underlying9 hi hz0 hz1 hz2 v' ys (by rfl) hod _ (by rfl) ?_ hbd ?_; (have := LO.out; simp; omega); intro v1 w1 ho1 hg1; have hw1 := hwd.grown hod hg1; have hc1 := hw1.cell; have hf1 := hw1.frozen; obtain ⟨a1, L1, c1, hv1⟩ := slice_form ho1; subst hv1; rw [sp_take n.toNat (by omega), indent_step HYS.out hpos hn1 (by rw [if_neg (by omega)])] at ho1))
        all_goals
          go_wp2
          go_roundw
          case rel => exact ⟨n - 64, rfl, by omega, by omega, ⟨_, hw1.set _, hw1.owns ho1⟩, ((hb.drew).trans (below_grown hg1 hod hB hbd)).setCell hBb _⟩
          case measure => simp [intOf]; omega
    · go_wp2
      go_end0
      refine ⟨rfl, ⟨v', hw, ?_⟩, hb⟩
      have e : n.toNat = 0 := by omega
      rw [e, Nat.sub_zero] at ho
      exact ho
end Go.Proofs.Qxb6608688a
