import Derived.Test.Qxb6608688aProg
import Derived.Test.Qxb6608688aBase
import Derived.KernelRfl
namespace Go.Proofs.Qxb6608688a
open Go.RowKit
set_option linter.unusedSimpArgs false
set_option linter.unusedVariables false

theorem info5 : (Try.prog.info? 5).map (fun i => (i.zero, i.size, i.bytes)) = some (some (.int .u8 0), 1, 1) := by kernel_rfl

set_option maxHeartbeats 400000 in
theorem clone_nil (n c : Nat) (w : World) :
    Calls Try.prog 6 #[.slice none n c] w fun e w' => e = .returned (.slice none 0 0) ∧ w' = w := by
  have hn := fun w => Lib.run_eql_slice_nil (P := Try.prog) w 22 5 none n c 0 0 Try.underlying22
  go_enter Try.func6, Try.ntmps6
  go_wp2
  go_ret
  exact ⟨rfl, rfl⟩

theorem clone_step {w : World} {g len : Nat} {zs : List Int} {k : Nat} (hk : k < zs.length) (hl : zs.length = len) (h : w.ownsRow g 5 1 (.slice (some ⟨g, 0, none⟩) len len) len (cs8 (zs.take k) ++ List.replicate (len - k) (.int .u8 0))) :
    (w.setCell ⟨g, k, none⟩ (.int .u8 (zs.getD k 0))).ownsRow g 5 1 (.slice (some ⟨g, 0, none⟩) len len) len (cs8 (zs.take (k + 1)) ++ List.replicate (len - (k + 1)) (.int .u8 0)) := by
  have h2 := (h.stored k (.int .u8 (zs.getD k 0))).1
  have e : (cs8 (zs.take k) ++ List.replicate (len - k) (Value.int .u8 0)).set k (Value.int .u8 (zs.getD k 0)) = cs8 (zs.take (k + 1)) ++ List.replicate (len - (k + 1)) (Value.int .u8 0) := by
    have e1 : len - k = (len - (k + 1)) + 1 := by omega
    have e2 : (cs8 (zs.take k)).length = k := by rw [cs8_length, List.length_take]; omega
    rw [e1, List.replicate_succ, List.set_append_right _ _ (by omega), e2, Nat.sub_self, List.set_cons_zero]
    have e3 : zs.take (k + 1) = zs.take k ++ [zs.getD k 0] := by
      rw [List.take_succ_eq_append_getElem hk]; simp [hk]
    rw [e3, cs8_append]
    simp [cs8]
  rw [e] at h2
  exact h2

set_option maxHeartbeats 1000000 in
theorem clone_some (x : Addr) (len cap : Nat) (zs : List Int) (w : World) (B : Nat) (hz : zs.length = len) (hl : len ≤ 4194304) (hB : B ≤ w.heap.size) (hr : Rd w B (some x) zs) :
    Calls Try.prog 6 #[.slice (some x) len cap] w fun e w' => e = .returned (.slice (some ⟨w.heap.size, 0, none⟩) len len) ∧ Owns w' w.heap.size (.slice (some ⟨w.heap.size, 0, none⟩) len len) zs ∧ Below w.heap.size w w' := by
  have hn := fun w => Lib.run_eql_slice_nil (P := Try.prog) w 22 5 (some x) len cap 0 0 Try.underlying22
  obtain ⟨i0, hi, hz0, hz1, hz2⟩ := info_parts info5
  have HR : Hid (Rd w B (some x) zs) := hr
  have HZ : Hid (zs.length = len) := hz
  clear hr hz
  go_enter Try.func6, Try.ntmps6
  go_wp2_with (at_make; refine wpList_make_full _ rfl (.tmp 8) (.tmp 8) 22 rfl w.heap.size 5 i0 (.int .u8 0) 1 Try.underlying22 hi hz0 hz1 .i64 .i64 _ _ len rfl rfl rfl rfl (by rw [hz2]; omega) (by unfold maxLen; omega) (Nat.le_refl _) ?_; intro w1 hown hgrow)
  go_loopw [4] (fun i wr => ∃ k : Nat, k ≤ len ∧ i = .int .i64 k ∧ Hid (wr.ownsRow w.heap.size 5 1 (.slice (some ⟨w.heap.size, 0, none⟩) len len) len (cs8 (zs.take k) ++ List.replicate (len - k) (.int .u8 0))) ∧ Below w.heap.size w wr) (fun i _ => len - (intOf i).toNat)
  case atStart =>
    refine ⟨0, by omega, rfl, ?_, ?_⟩
    · have e : (madeCells (Value.int .u8 0).cells (len * 1)).toList = cs8 (zs.take 0) ++ List.replicate (len - 0) (.int .u8 0) := by
        have : (Value.int .u8 0).cells = #[.int .u8 0] := rfl
        rw [this, toList_madeCells_one]; simp [cs8]
      rw [e] at hown
      exact hown
    · exact (Below.refl _ _).grown hgrow (Nat.le_refl _) (by intro k e; cases e)
  case round =>
    clear hown hgrow
    obtain ⟨k, hk, rfl, HO, hb⟩ := hrel
    by_cases hlt : k < len
    · rcases HR.out with h | ⟨b, o, hx, hbB, hc⟩
      · rw [h] at HZ; have := HZ.out; simp at this; omega
      · injection hx with hx
        subst hx
        have hcz : wr.cell? ⟨b, o + k, none⟩ = some (.int .u8 (zs.getD k 0)) := (hb.cell (p := ⟨b, o + k, none⟩) (by simp; omega)).trans (hc k (by rw [HZ.out]; exact hlt))
        obtain ⟨z, hzz⟩ : ∃ z, zs.getD k 0 = z := ⟨_, rfl⟩
        have S := clone_step (by rw [HZ.out]; exact hlt) HZ.out HO.out
        rw [hzz] at hcz S
        have hf : wr.frozen? ⟨w.heap.size, k, none⟩ = false := HO.out.frozenAt k
        obtain ⟨u, hu⟩ : ∃ u, wr.cell? ⟨w.heap.size, k, none⟩ = some u := by
          have := HO.out.cellAt k (by omega)
          rw [this]
          have hll : k < (cs8 (zs.take k) ++ List.replicate (len - k) (Value.int .u8 0)).length := by have := HO.out.1; omega
          exact ⟨_, List.getElem?_eq_getElem hll⟩
        have HS : Hid ((wr.setCell ⟨w.heap.size, k, none⟩ (.int .u8 z)).ownsRow w.heap.size 5 1 (.slice (some ⟨w.heap.size, 0, none⟩) len len) len (cs8 (zs.take (k + 1)) ++ List.replicate (len - (k + 1)) (.int .u8 0))) := S
        clear S hc hzz
        go_wp2
        go_roundw
        case rel => exact ⟨k + 1, by omega, by go_num, HS, hb.setCell (Nat.le_refl _) _⟩
        case measure => simp [intOf]; omega
    · obtain rfl : len = k := by omega
      go_wp2
      go_ret
      refine ⟨rfl, ?_, hb⟩
      have h := HO.out
      rw [Nat.sub_self, List.replicate_zero, List.append_nil, List.take_of_length_le (by rw [HZ.out]; exact Nat.le_refl _)] at h
      unfold Owns
      rw [HZ.out]
      exact h
end Go.Proofs.Qxb6608688a
