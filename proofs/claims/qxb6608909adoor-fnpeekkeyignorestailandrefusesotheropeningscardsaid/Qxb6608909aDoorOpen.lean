import Derived.Test.Qxb6608909aDoorSize
import Derived.ProofKit
import Derived.OpenShut
import Derived.Deep.Slices
import Derived.Lib.LaidU8
namespace Go.Proofs.Qxb6608909aDoor
open Go.ChangeShapes Go.WideShapes Go.ChangeAt Go.RowKit
set_option linter.unusedSimpArgs false
set_option linter.unusedVariables false

theorem powType : (Tryd.prog.globalNamed powName).bind (fun g => (Tryd.prog.globals[g]?).map (·.type)) = some 81 := by kernel_rfl
theorem powData : (Rows.laid_internal_strconv_uint64pow10 : DataW Unit) = Lib.tabData .u64 Lib.pow10Tab := by kernel_rfl

theorem tab_of_laid {W : World} (h : laidMet Tryd.prog Rows.fnPeekKeyAtEveryCutOfAppendArrayRow.laid W) : Tab W.heap.size W := by
  obtain ⟨g, t, cs, fuel, p, hg, ht, hv, hd⟩ := Lib.laidMet.reads h (n := powName) (d := Rows.laid_internal_strconv_uint64pow10) (.tail _ (.tail _ (.head _)))
  have h81 := powType
  rw [hg, Option.bind_some, ht] at h81
  obtain rfl := Option.some.inj h81
  rw [powData] at hd
  refine Lib.tabBelow_of_tabIs ?_
  unfold Lib.TabIs
  rw [hv, ← Lib.cells_of_tab Tryd.underlying81 Tryd.underlying59 (by kernel_rfl) (by kernel_rfl) hd]

theorem size22 : Tryd.prog.cellsOf 22 = 1 := by kernel_rfl

section
variable {H : Type} {enc : TypeId × Value → H} {W : World}

/-- A byte slice that came in. -/
theorem open_bytes {fuel : Nat} {v : Value} {x : DataW H × List MemPlace} (hf : DataW.trod enc Tryd.prog W 0 (fun _ => true) true fuel 22 [v] = some x) :
    ∃ zs, Sl W v zs ∧ zs.length ≤ maxLen := by
  rcases open_ints Tryd.underlying22 Tryd.underlying5 (by kernel_rfl) hf with ⟨hcs, _⟩ | ⟨y, l, c, zs, hcs, _, hl, hm, hz, _, hcell, hwz⟩
  · simp at hcs
    subst hcs
    exact ⟨[], ⟨none, 0, rfl, .inl rfl, fun _ => rfl, Nat.le_refl _⟩, by simp⟩
  · simp at hcs
    subst hcs
    have hz' : zs.length = c := by simpa using hz
    have hlen : (zs.take l).length = l := by rw [List.length_take]; omega
    refine ⟨zs.take l, ⟨some y, c, by rw [hlen], ?_, (fun e => by cases e), by omega⟩, by rw [hlen]; omega⟩
    by_cases h0 : l = 0
    · subst h0; exact .inl (by simp)
    · obtain ⟨b, o, rfl, hc⟩ := ints_at hcell (by omega)
      refine .inr ⟨b, o, rfl, World.block_lt_of_cell? W _ (hc 0 (by omega)), fun j hj => ?_⟩
      rw [hlen] at hj
      rw [getD_take hj]
      exact hc j (by omega)

/-- A slice of byte slices that came in. -/
theorem open_cells {fuel : Nat} {a : Option Addr} {len cap : Nat} {x : DataW H × List MemPlace} (hf : DataW.trod enc Tryd.prog W 0 (fun _ => true) true fuel 23 [.slice a len cap] = some x) :
    ∃ ess, Cells W a len ess := by
  rcases Deep.open_slice1 Tryd.underlying23 size22 hf with ⟨hcs, _⟩ | ⟨y, l, c, m, n, V, D, Pl, hcs, _, hl, hm, hmm, _, hall⟩
  · simp at hcs
    obtain ⟨rfl, rfl, rfl⟩ := hcs
    exact ⟨[], rfl, by simp, by simp, .inl rfl⟩
  · simp at hcs
    obtain ⟨rfl, rfl, rfl⟩ := hcs
    obtain rfl : m = cap := by simpa using hmm
    obtain ⟨f, hfam⟩ := Deep.choose_lt (α := List Int) (n := len) (p := fun i zs => Sl W (V i) zs ∧ zs.length ≤ maxLen) (fun i hi => open_bytes (hall i (by omega)).2)
    have hlen : ((List.range len).map f).length = len := by simp
    refine ⟨(List.range len).map f, hlen, by omega, ?_, ?_⟩
    · intro e he
      simp only [List.mem_map, List.mem_range] at he
      obtain ⟨i, hi, rfl⟩ := he
      exact (hfam i hi).2
    · by_cases h0 : len = 0
      · subst h0; exact .inl (by simp)
      · obtain ⟨b, off, spot⟩ := y
        have hspot : spot = none := by simpa [Addr.add] using World.cell?_spot (hall 0 (by omega)).1
        subst hspot
        have hc : ∀ j, j < len → W.cell? ⟨b, off + j, none⟩ = some (V j) := fun j hj => by rw [← Go.WideShapes.add_plain]; exact (hall j (by omega)).1
        refine .inr ⟨b, off, rfl, World.block_lt_of_cell? W _ (hc 0 (by omega)), fun j hj => ?_⟩
        rw [hlen] at hj
        refine ⟨V j, hc j hj, ?_⟩
        have : ((List.range len).map f).getD j [] = f j := by simp [hj]
        rw [this]
        exact (hfam j hj).1
end
end Go.Proofs.Qxb6608909aDoor
