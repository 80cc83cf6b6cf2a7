import Derived.Test.Qxb6608688aEq
import Derived.Test.Qxb6608688aCat
import Derived.Test.Qxb6608688aHead
namespace Go.Proofs.Qxb6608688a
open Go.RowKit
set_option linter.unusedSimpArgs false
set_option linter.unusedVariables false

/-- v is a slice of bytes that reads as zs. -/
def Sl (w : World) (v : Value) (zs : List Int) : Prop := ∃ a c, v = .slice a zs.length c ∧ Rd w w.heap.size a zs ∧ (a = none → c = 0)

theorem Owns.sl {w : World} {base : Nat} {v : Value} {zs : List Int} (h : Owns w base v zs) : Sl w v zs := h.form

theorem Sl.below {w w' : World} {v : Value} {zs : List Int} (h : Sl w v zs) (hb : Below w.heap.size w w') : Sl w' v zs := by
  obtain ⟨a, c, hv, hr, hn⟩ := h
  exact ⟨a, c, hv, (hr.below hb (Nat.le_refl _)).up hb.size, hn⟩

theorem clone_sl (v : Value) (zs : List Int) (w : World) (h : Sl w v zs) (hl : zs.length ≤ 4194304) :
    Calls Try.prog 6 #[v] w fun e w' => ∃ u, e = .returned u ∧ Owns w' w.heap.size u zs ∧ Below w.heap.size w w' := by
  obtain ⟨a, c, rfl, hr, hn⟩ := h
  cases a with
  | none =>
    have hz : zs = [] := by
      rcases hr with h | ⟨b, o, h, _⟩
      · exact h
      · cases h
    subst hz
    refine (clone_nil _ _ w).mono ?_
    rintro e w' ⟨rfl, rfl⟩
    exact ⟨_, rfl, Owns.empty _ _, Below.refl _ _⟩
  | some x =>
    refine (clone_some x _ c zs w _ rfl hl (Nat.le_refl _) hr).mono ?_
    rintro e w' ⟨rfl, ho, hb⟩
    exact ⟨_, rfl, ho, hb⟩

theorem eq_sl (u v : Value) (za zb : List Int) (w : World) (hu : Sl w u za) (hv : Sl w v zb) (la : za.length ≤ 4194304) (lb : zb.length ≤ 4194304) :
    Calls Try.prog 8 #[u, v] w fun e w' => e = .returned (.bool (decide (za = zb))) ∧ Below w.heap.size w w' := by
  obtain ⟨a, c, rfl, hr, hn⟩ := hu
  obtain ⟨a', c', rfl, hr', hn'⟩ := hv
  exact eq_any a a' _ c _ c' za zb w w.heap.size rfl rfl la lb (Nat.le_refl _) hr hr'

theorem concat_sl (u v : Value) (za zb : List Int) (w : World) (hu : Sl w u za) (hv : Sl w v zb) (la : za.length ≤ 4194304) (lb : zb.length ≤ 4194304) :
    Calls Try.prog 9 #[u, v] w fun e w' => ∃ x, e = .returned x ∧ Sl w' x (za ++ zb) ∧ Below w.heap.size w w' := by
  obtain ⟨a, c, rfl, hr, hn⟩ := hu
  obtain ⟨a', c', rfl, hr', hn'⟩ := hv
  refine (concat_any a a' _ c _ c' za zb w w.heap.size rfl rfl la lb (Nat.le_refl _) hn hn' hr hr').mono ?_
  rintro e w' ⟨x, rfl, ho, hb⟩
  exact ⟨x, rfl, ho.sl, hb⟩

/-- The line that head writes. -/
def line (d l : Int) (name : ByteArray) : List Int := List.replicate (4 * d).toNat 32 ++ [l, 32] ++ sb name
theorem line_length (d l : Int) (name : ByteArray) : (line d l name).length = (4 * d).toNat + 2 + name.size := by
  unfold line; rw [List.length_append, List.length_append, List.length_replicate, sb_length]; rfl

theorem zhead_sl (base : Nat) (d l : Int) (name : ByteArray) (v : Value) (zs : List Int) (w : World) (B : Nat) (d0 : -65536 ≤ d) (d1 : d ≤ 65536) (hl : zs.length ≤ 2097152) (hnm : name.size ≤ 1048576) (hB : B ≤ base) (hbs : base ≤ w.heap.size) (ho : Owns w base v zs) :
    Calls Try.prog 7 #[v, .int .i64 d, .int .u8 l, .string name] w fun e w' => (∃ v', e = .returned v' ∧ Sl w' v' (zs ++ line d l name)) ∧ Below B w w' := by
  refine (zhead_any base d l name v zs w B d0 d1 hl hnm hB hbs ho).mono ?_
  rintro e w' ⟨⟨v', rfl, ho⟩, hb⟩
  refine ⟨⟨v', rfl, ?_⟩, hb⟩
  have := ho.sl
  unfold line
  rw [List.append_assoc, List.append_assoc] at this
  rw [List.append_assoc]
  exact this

set_option maxHeartbeats 400000 in
theorem bytes5_yes (a0 : Option Addr) (l0 c0 : Nat) (d l : Int) (name : ByteArray) (w : World) (h : l0 + name.size ≤ 1048576) :
    Calls Try.prog 5 #[.slice a0 l0 c0, .int .i64 d, .int .u8 l, .string name] w fun e w' => e = .returned (.bool true) ∧ w' = w := by
  go_enter Try.func5, Try.ntmps5
  go_wp2
  go_ret
  exact ⟨rfl, rfl⟩

set_option maxHeartbeats 400000 in
theorem bytes5_no (a0 : Option Addr) (l0 c0 : Nat) (d l : Int) (name : ByteArray) (w : World) (m0 : l0 ≤ maxLen) (m1 : name.size ≤ maxLen) (h : ¬ l0 + name.size ≤ 1048576) :
    Calls Try.prog 5 #[.slice a0 l0 c0, .int .i64 d, .int .u8 l, .string name] w fun e w' => e = .returned (.bool false) ∧ w' = w := by
  unfold maxLen at m0 m1
  by_cases h0 : l0 ≤ 1048576
  · by_cases h1 : name.size ≤ 1048576
    all_goals
      go_enter Try.func5, Try.ntmps5
      go_wp2
      go_ret
      exact ⟨rfl, rfl⟩
  · go_enter Try.func5, Try.ntmps5
    go_wp2
    go_ret
    exact ⟨rfl, rfl⟩

set_option maxHeartbeats 400000 in
theorem bytes10_yes (a0 : Option Addr) (l0 c0 : Nat) (d l cut : Int) (name : ByteArray) (w : World) (h : l0 + name.size ≤ 1048576) :
    Calls Try.prog 10 #[.slice a0 l0 c0, .int .i64 d, .int .u8 l, .string name, .int .i64 cut] w fun e w' => e = .returned (.bool true) ∧ w' = w := by
  go_enter Try.func10, Try.ntmps10
  go_wp2
  go_ret
  exact ⟨rfl, rfl⟩

set_option maxHeartbeats 400000 in
theorem bytes10_no (a0 : Option Addr) (l0 c0 : Nat) (d l cut : Int) (name : ByteArray) (w : World) (m0 : l0 ≤ maxLen) (m1 : name.size ≤ maxLen) (h : ¬ l0 + name.size ≤ 1048576) :
    Calls Try.prog 10 #[.slice a0 l0 c0, .int .i64 d, .int .u8 l, .string name, .int .i64 cut] w fun e w' => e = .returned (.bool false) ∧ w' = w := by
  unfold maxLen at m0 m1
  by_cases h0 : l0 ≤ 1048576
  · by_cases h1 : name.size ≤ 1048576
    all_goals
      go_enter Try.func10, Try.ntmps10
      go_wp2
      go_ret
      exact ⟨rfl, rfl⟩
  · go_enter Try.func10, Try.ntmps10
    go_wp2
    go_ret
    exact ⟨rfl, rfl⟩
end Go.Proofs.Qxb6608688a
