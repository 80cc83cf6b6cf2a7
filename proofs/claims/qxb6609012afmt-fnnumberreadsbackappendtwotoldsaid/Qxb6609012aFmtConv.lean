import Derived.Test.Qxb6609012aFmtTwo
import Derived.Test.Qxb6609012aFmtText
namespace Go.Proofs.Qxb6609012aFmt
open Go.RowKit
set_option linter.unusedSimpArgs false
set_option linter.unusedVariables false

theorem bytes_at (w : World) (p : ByteArray) : At (Lib.bytesWorld w 5 p) w.heap.size (nums p) := by
  intro j hj
  rw [nums_length] at hj
  rw [Lib.bytesWorld_cell w 5 p j hj]
  have hl : j < p.data.toList.length := by rw [len_list]; exact hj
  unfold nums
  rw [List.getD_eq_getElem?_getD, List.getD_eq_getElem?_getD, List.getElem?_map, List.getElem?_eq_getElem hl]
  rfl

theorem bytes_spare (w : World) (p : ByteArray) : ∀ j, p.size ≤ j → j < grownCap w p.size 0 5 → ((Lib.bytesWorld w 5 p).cell? ⟨w.heap.size, j, none⟩).isSome = true ∧ (Lib.bytesWorld w 5 p).frozen? ⟨w.heap.size, j, none⟩ = false := by
  intro j h1 h2
  have hsz : (Lib.bytesCells w 5 p).size = grownCap w p.size 0 5 := by
    unfold Lib.bytesCells
    rw [Array.size_append, Array.size_map, Array.size_replicate]
    have : p.data.size = p.size := rfl
    rw [this]
    omega
  have hn := Lib.bytesWorld_at_new w 5 p
  constructor
  · unfold World.cell?
    rw [hn]
    have : j < (Lib.bytesCells w 5 p).size := by omega
    simp [this]
  · unfold World.frozen?
    rw [hn]
    simp
    omega

theorem bytes_below (w : World) (p : ByteArray) : Below w.heap.size w (Lib.bytesWorld w 5 p) :=
  ⟨rfl, rfl, rfl, by rw [Lib.bytesWorld_size]; omega, fun k hk => Lib.bytesWorld_at_old w 5 p k hk⟩
end Go.Proofs.Qxb6609012aFmt
