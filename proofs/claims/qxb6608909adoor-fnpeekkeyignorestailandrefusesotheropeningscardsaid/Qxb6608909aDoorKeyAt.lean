import Derived.Test.Qxb6608909aDoorPeek
namespace Go.Proofs.Qxb6608909aDoor
open Go.RowKit
set_option linter.unusedSimpArgs false
set_option linter.unusedVariables false

theorem arr_split (e0 e1 : List Int) (es : List (List Int)) (tail : List Int) :
    arr (e0 :: e1 :: es) ++ tail = (hdr 42 (es.length + 2) ++ bulk e0 ++ hdr 36 e1.length) ++ (e1 ++ ([13, 10] ++ es.flatMap bulk ++ tail)) := by
  simp [arr, bulk]

theorem key_cut (es : List (List Int)) (tail : List Int) (k : Nat) (h2 : 2 ≤ es.length) (hk : keyEnd es ≤ k) :
    (((arr es ++ tail).take k).drop (keyEnd es - (es.getD 1 []).length)).take (es.getD 1 []).length = es.getD 1 [] := by
  match es, h2 with
  | e0 :: e1 :: es, _ =>
    have h1 : (e0 :: e1 :: es).getD 1 [] = e1 := rfl
    have h0 : (e0 :: e1 :: es).getD 0 [] = e0 := rfl
    have hK : keyEnd (e0 :: e1 :: es) = (hdr 42 (es.length + 2) ++ bulk e0 ++ hdr 36 e1.length).length + e1.length := by
      unfold keyEnd
      rw [h1, h0]
      simp only [List.length_append, hdr_length, bulk_length, List.length_cons, show es.length + 1 + 1 = es.length + 2 from rfl]
      omega
    rw [h1, arr_split]
    rw [hK] at hk ⊢
    obtain ⟨P, hP⟩ : ∃ P, hdr 42 (es.length + 2) ++ bulk e0 ++ hdr 36 e1.length = P := ⟨_, rfl⟩
    rw [hP] at hk ⊢
    rw [Nat.add_sub_cancel, List.drop_take, List.drop_left, List.take_take, Nat.min_eq_left (by omega), List.take_left]

/-- What PeekKey must hand back at a cut of an array. -/
theorem peeked_cut {w : World} {es : List (List Int)} {tail : List Int} {k : Nat} {r : Value} (hN : es.length ≤ 9999999) (hsz : ∀ e ∈ es, e.length ≤ 9999999) (hk : k ≤ (arr es ++ tail).length)
    (h : Peeked w ((arr es ++ tail).take k) r) :
    if 2 ≤ es.length ∧ keyEnd es ≤ k then (∃ ad cc, r = .slice (some ad) (es.getD 1 []).length cc) ∧ Sl w r (es.getD 1 []) else r = .slice none 0 0 := by
  have hp := peek_spec es tail k hN hsz hk
  unfold Peeked at h
  rw [hp] at h
  by_cases hc : 2 ≤ es.length ∧ keyEnd es ≤ k
  · rw [if_pos hc] at h ⊢
    obtain ⟨h1, h2⟩ := h
    rw [key_cut es tail k hc.1 hc.2] at h2
    exact ⟨h1, h2⟩
  · rw [if_neg hc] at h ⊢
    exact h
end Go.Proofs.Qxb6608909aDoor
