import Derived.Test.Qxb6608909aDoorKeyAt
namespace Go.Proofs.Qxb6608909aDoor
open Go.RowKit
set_option linter.unusedSimpArgs false
set_option linter.unusedVariables false

theorem keyEnd_le (es : List (List Int)) (h2 : 2 ≤ es.length) : keyEnd es ≤ (arr es).length := by
  match es, h2 with
  | e0 :: e1 :: es, _ =>
    have h := congrArg List.length (arr_split e0 e1 es [])
    rw [List.append_nil] at h
    have h1 : (e0 :: e1 :: es).getD 1 [] = e1 := rfl
    have h0 : (e0 :: e1 :: es).getD 0 [] = e0 := rfl
    unfold keyEnd
    rw [h1, h0, h]
    simp only [List.length_append, hdr_length, bulk_length, List.length_cons, show es.length + 1 + 1 = es.length + 2 from rfl]
    omega

theorem arr_head (es : List (List Int)) (t : List Int) : ∃ rest, arr es ++ t = 42 :: (num es.length ++ 13 :: 10 :: rest) :=
  ⟨es.flatMap bulk ++ t, by simp [arr, hdr]⟩

theorem peeked_whole {w : World} {es : List (List Int)} {t : List Int} {r : Value} (hN : es.length ≤ 9999999) (hsz : ∀ e ∈ es, e.length ≤ 9999999) (h : Peeked w (arr es ++ t) r) :
    if 2 ≤ es.length then (∃ ad cc, r = .slice (some ad) (es.getD 1 []).length cc) ∧ Sl w r (es.getD 1 []) else r = .slice none 0 0 := by
  have h' := peeked_cut (es := es) (tail := t) (k := (arr es ++ t).length) hN hsz (Nat.le_refl _) (by rw [List.take_length]; exact h)
  by_cases h2 : 2 ≤ es.length
  · have hk := keyEnd_le es h2
    rw [if_pos ⟨h2, by rw [List.length_append]; omega⟩] at h'
    rw [if_pos h2]
    exact h'
  · rw [if_neg (by omega)] at h'
    rw [if_neg h2]
    exact h'

theorem peeked_nil {w : World} {B : List Int} {r : Value} (hp : peek B = none) (h : Peeked w B r) : r = .slice none 0 0 := by
  unfold Peeked at h
  rw [hp] at h
  exact h

theorem peeked_other {w : World} {es : List (List Int)} {t : List Int} {c : Int} {r : Value} (hc : c ≠ 42) (h : Peeked w ((arr es ++ t).set 0 c) r) : r = .slice none 0 0 := by
  obtain ⟨rest, hr⟩ := arr_head es t
  rw [hr] at h
  refine peeked_nil (peek_closed ?_) h
  unfold opens
  rw [decide_eq_false]
  rintro ⟨_, h1, _⟩
  exact hc (by simpa using h1)

theorem set_same (es : List (List Int)) (t : List Int) : (arr es ++ t).set 0 42 = arr es ++ t := by
  obtain ⟨rest, hr⟩ := arr_head es t
  rw [hr]
  rfl

theorem peeked_zero {w : World} {es : List (List Int)} {t : List Int} {r : Value} (h : Peeked w ([] ++ [42, 48] ++ (arr es ++ t).drop 1) r) : r = .slice none 0 0 := by
  obtain ⟨rest, hr⟩ := arr_head es t
  rw [hr] at h
  refine peeked_nil (peek_closed ?_) h
  unfold opens
  rw [decide_eq_false]
  rintro ⟨_, _, h1, _⟩
  have e : ([] ++ [42, 48] ++ (42 :: (num es.length ++ 13 :: 10 :: rest)).drop 1 : List Int).drop 1 = 48 :: (num es.length ++ 13 :: 10 :: rest) := rfl
  rw [e, line_lead] at h1
  cases h1

theorem first42 (es : List (List Int)) (t : List Int) : (arr es ++ t).getD 0 0 = 42 := by
  obtain ⟨rest, hr⟩ := arr_head es t
  rw [hr]
  rfl
end Go.Proofs.Qxb6608909aDoor
