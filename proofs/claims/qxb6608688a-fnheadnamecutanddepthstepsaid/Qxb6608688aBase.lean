import Derived.WalkKit
import Derived.WalkSpells
import Derived.Lib.AppendStr
import Derived.Laws.AppendOwnNone
namespace Go.Proofs.Qxb6608688a
open Go.RowKit
set_option linter.unusedSimpArgs false
set_option linter.unusedVariables false

/-- Bytes, as cells. -/
def cs8 (zs : List Int) : List Value := zs.map (Value.int .u8)
theorem cs8_length (zs : List Int) : (cs8 zs).length = zs.length := by simp [cs8]
theorem cs8_append (a b : List Int) : cs8 (a ++ b) = cs8 a ++ cs8 b := by simp [cs8]
theorem cs8_one (zs : List Int) : ∀ u ∈ cs8 zs, u.oneCell' = true := by
  intro u hu
  simp only [cs8, List.mem_map] at hu
  obtain ⟨b, _, rfl⟩ := hu
  rfl

/-- A string's bytes, as numbers. -/
def sb (s : ByteArray) : List Int := s.data.toList.map fun b => (b.toNat : Int)
theorem sb_length (s : ByteArray) : (sb s).length = s.size := by simp [sb]
theorem strCells_sb (s : ByteArray) : Lib.strCells s = cs8 (sb s) := by simp [Lib.strCells, cs8, sb, Function.comp_def]

/-- The value v, a slice of the call's own blocks from 'base' on, holds just the bytes zs. -/
def Owns (w : World) (base : Nat) (v : Value) (zs : List Int) : Prop := w.ownsRow base 5 1 v zs.length (cs8 zs)

/-- The bytes zs can be read from the address a, all of it below block B. -/
def Rd (w : World) (B : Nat) (a : Option Addr) (zs : List Int) : Prop :=
  zs = [] ∨ ∃ b o, a = some ⟨b, o, none⟩ ∧ b < B ∧ ∀ j, j < zs.length → w.cell? ⟨b, o + j, none⟩ = some (.int .u8 (zs.getD j 0))

theorem Rd.below {w w' : World} {B B' : Nat} {a : Option Addr} {zs : List Int} (h : Rd w B a zs) (hb : Below B' w w') (hB : B ≤ B') : Rd w' B a zs := by
  rcases h with h | ⟨b, o, ha, hlt, hc⟩
  · exact .inl h
  · exact .inr ⟨b, o, ha, hlt, fun j hj => (hb.cell (p := ⟨b, o + j, none⟩) (by simp; omega)).trans (hc j hj)⟩

theorem Rd.up {w : World} {B B' : Nat} {a : Option Addr} {zs : List Int} (h : Rd w B a zs) (hB : B ≤ B') : Rd w B' a zs := by
  rcases h with h | ⟨b, o, ha, hlt, hc⟩
  · exact .inl h
  · exact .inr ⟨b, o, ha, by omega, hc⟩

theorem cs8_getElem? (zs : List Int) (j : Nat) (hj : j < zs.length) : (cs8 zs)[j]? = some (.int .u8 (zs.getD j 0)) := by
  simp [cs8, hj]

theorem Owns.form {w : World} {base : Nat} {v : Value} {zs : List Int} (h : Owns w base v zs) :
    ∃ a cap, v = .slice a zs.length cap ∧ Rd w w.heap.size a zs ∧ (a = none → cap = 0) := by
  rcases h.2 with ⟨h1, h2⟩ | ⟨g, cap, cur, rfl, hb, hg, hn, hm, hc, ht⟩
  · refine ⟨none, 0, ?_, .inl (List.eq_nil_of_length_eq_zero h2), fun _ => rfl⟩
    rw [h1, h2]
  · refine ⟨_, cap, rfl, .inr ⟨g, 0, rfl, ?_, fun j hj => ?_⟩, fun e => by cases e⟩
    · rcases Nat.lt_or_ge g w.heap.size with hlt | hge
      · exact hlt
      · rw [Array.getElem?_eq_none hge] at hg; cases hg
    · have hh : w.ownsRow base 5 1 (.slice (some ⟨g, 0, none⟩) zs.length cap) zs.length (cs8 zs) := h
      have := hh.cellAt j (by omega)
      rw [Nat.zero_add, this, cs8_getElem? zs j hj]

/-- What was appended reads so where it lies: for the append laws. -/
theorem Rd.news {w : World} {B b o : Nat} {zs : List Int} (hc : ∀ j, j < zs.length → w.cell? ⟨b, o + j, none⟩ = some (.int .u8 (zs.getD j 0))) :
    ∀ j u, (cs8 zs)[j]? = some u → w.cell? ((⟨b, o, none⟩ : Addr).add j) = some u := by
  intro j u hu
  by_cases hj : j < zs.length
  · rw [cs8_getElem? zs j hj] at hu
    have hadd : (⟨b, o, none⟩ : Addr).add j = ⟨b, o + j, none⟩ := by unfold Addr.add; split <;> simp_all
    rw [hadd, hc j hj]; exact hu
  · rw [List.getElem?_eq_none (by rw [cs8_length]; omega)] at hu; cases hu

theorem getD_take {zs : List Int} {n j : Nat} (h : j < n) : (zs.take n).getD j 0 = zs.getD j 0 := by
  simp [List.getElem?_take, h]
theorem getD_drop {zs : List Int} {n j : Nat} : (zs.drop n).getD j 0 = zs.getD (n + j) 0 := by
  simp [List.getElem?_drop]

theorem Rd.take {w : World} {B : Nat} {a : Option Addr} {zs : List Int} (h : Rd w B a zs) (n : Nat) : Rd w B a (zs.take n) := by
  rcases h with h | ⟨b, o, ha, hlt, hc⟩
  · exact .inl (by rw [h]; simp)
  · refine .inr ⟨b, o, ha, hlt, fun j hj => ?_⟩
    rw [List.length_take] at hj
    rw [getD_take (by omega)]
    exact hc j (by omega)

theorem Rd.drop {w : World} {B b o : Nat} {zs : List Int} (n : Nat) (h : b < B) (hc : ∀ j, j < zs.length → w.cell? ⟨b, o + j, none⟩ = some (.int .u8 (zs.getD j 0))) : Rd w B (some ⟨b, o + n, none⟩) (zs.drop n) := by
  refine .inr ⟨b, o + n, rfl, h, fun j hj => ?_⟩
  rw [List.length_drop] at hj
  rw [getD_drop, Nat.add_assoc]
  exact hc (n + j) (by omega)

/-- A make or an append by the kit's laws, and what it does to old memory. -/
theorem below_grown {B : Nat} {w w' : World} {v : Value} {base : Nat} {zs : List Int} (hg : w.grownBy w' v.ownBlock) (ho : Owns w base v zs) (hB : B ≤ base) (hs : base ≤ w.heap.size) : Below B w w' := by
  refine (Below.refl B w).grown hg (by omega) ?_
  intro k hk
  rcases ho.2 with ⟨h1, h2⟩ | ⟨g, cap, cur, rfl, hb, hgg, hn, hm, hc, ht⟩
  · rw [h1] at hk; simp [Value.ownBlock] at hk
  · simp [Value.ownBlock] at hk; omega

theorem Owns.below {w w' : World} {base B : Nat} {v : Value} {zs : List Int} (h : Owns w base v zs) (hb : Below B w w') (hB : w.heap.size ≤ B) : Owns w' base v zs := by
  refine ⟨h.1, ?_⟩
  rcases h.2 with h1 | ⟨g, cap, cur, hv, hbg, hg, rest⟩
  · exact .inl h1
  · refine .inr ⟨g, cap, cur, hv, hbg, ?_, rest⟩
    rw [hb.block g (by have := (Array.getElem?_eq_some_iff.1 hg).1; omega)]
    exact hg

theorem Owns.drew {w : World} {base : Nat} {v : Value} {zs : List Int} (h : Owns w base v zs) : Owns w.drew base v zs := h
end Go.Proofs.Qxb6608688a
