import Derived.Test.Qxb6609012aFmtShelf
import Derived.WalkKit
import Derived.WalkSpells
import Derived.ArgAppend
import Derived.Deep.RegionLaw
import Derived.Lib.ConvBytes
import Derived.Below
import Derived.KernelRfl
namespace Go.Proofs.Qxb6609012aFmt
open Go.RowKit
set_option linter.unusedSimpArgs false
set_option linter.unusedVariables false

theorem Hid.intro' {p : Prop} (h : p) : Hid p := h
theorem info5 : (Tryf.prog.info? 5).map (fun i => (i.zero, i.size, i.bytes)) = some (some (.int .u8 0), 1, 1) := by kernel_rfl

theorem below_setCells' {B b : Nat} (hb : B ≤ b) : ∀ (vs : List Value) (o : Nat) (w : World), Below B w (w.setCells b o vs)
  | [], _, w => Below.refl _ _
  | v :: r, o, w => by
    rw [World.setCells]
    exact ((Below.refl B w).setCell (p := ⟨b, o, none⟩) hb v).trans (below_setCells' hb r (o + 1) _)

/-- The bytes zs lie in block b from its head on. -/
def At (w : World) (b : Nat) (zs : List Int) : Prop := ∀ j, j < zs.length → w.cell? ⟨b, j, none⟩ = some (.int .u8 (zs.getD j 0))

theorem append_two {P : Program} (w : World) (t ty : TypeId) (i : TypeInfo) (ht : P.underlying t = some (.slice 5)) (hi : P.info? 5 = some i) (hz : i.zero = some (.int .u8 0)) (hsize : i.size = 1) (hby : i.bytes = 1)
    (b cap : Nat) (zs : List Int) (n : Nat) (hn : zs.length = n) (hat : At w b zs) (hspare : ∀ j, n ≤ j → j < cap → (w.cell? ⟨b, j, none⟩).isSome = true ∧ w.frozen? ⟨b, j, none⟩ = false)
    (g c : Nat) (p q : Int) (hnw : At w g [p, q]) (B : Nat) (hB : B ≤ b) (hBw : B ≤ w.heap.size) (hb : n ≤ 1048576) :
    ∃ b' c' w', (Builtin.append_ #[t, t] ty #[.slice (some ⟨b, 0, none⟩) n cap, .slice (some ⟨g, 0, none⟩) 2 c]).run P w = .ok (.slice (some ⟨b', 0, none⟩) (n + 2) c') w' ∧ At w' b' (zs ++ [p, q]) ∧ Below B w w' ∧ b' < w'.heap.size := by
  subst hn
  have hadd : ∀ (b j : Nat), (⟨b, 0, none⟩ : Addr).add j = ⟨b, j, none⟩ := by intro b j; unfold Addr.add; split <;> simp_all
  have hnews : ∀ j u, ([Value.int .u8 p, Value.int .u8 q])[j]? = some u → w.cell? ((⟨g, 0, none⟩ : Addr).add j) = some u := by
    intro j u hu
    rw [hadd]
    match j, hu with
    | 0, hu => have := hnw 0 (by simp); simp at this hu; rw [this, hu]
    | 1, hu => have := hnw 1 (by simp); simp at this hu; rw [this, hu]
    | j + 2, hu => simp at hu
  have h1 : ∀ u ∈ [Value.int .u8 p, Value.int .u8 q], u.oneCell' = true := by
    intro u hu; simp at hu; rcases hu with rfl | rfl <;> rfl
  by_cases hr : zs.length + 2 ≤ cap
  · have hsp : ∀ j, j < 2 → (w.cell? ⟨b, zs.length + j, none⟩).isSome = true ∧ w.frozen? ⟨b, zs.length + j, none⟩ = false := fun j hj => hspare _ (by omega) (by omega)
    have hrun := run_append_room_cells (P := P) w t ty 5 i ht hi b 0 zs.length cap ⟨g, 0, none⟩ 2 c [.int .u8 p, .int .u8 q] (by simp [hsize]) hnews h1 hr
      (fun j hj => by rw [hsize, Nat.mul_one, Nat.zero_add]; exact (hsp j (by simpa using hj)).1) (fun j hj => by rw [hsize, Nat.mul_one, Nat.zero_add]; exact (hsp j (by simpa using hj)).2)
    rw [hsize, Nat.mul_one, Nat.zero_add] at hrun
    have hbl := below_setCells' hB [.int .u8 p, .int .u8 q] zs.length w
    refine ⟨b, cap, _, hrun, ?_, hbl, ?_⟩
    · intro j hj
      rw [List.length_append] at hj
      by_cases hjn : j < zs.length
      · rw [World.cell?_setCells_out b _ _ _ _ (fun _ _ => Or.inl (by simpa using hjn)), hat j hjn]
        simp [List.getElem?_append_left hjn]
      · obtain ⟨k, rfl⟩ : ∃ k, j = zs.length + k := ⟨j - zs.length, by omega⟩
        have hk : k < 2 := by simp at hj; omega
        rw [World.cell?_setCells_in b [.int .u8 p, .int .u8 q] zs.length w (fun j hj => (hsp j (by simpa using hj)).1) k (by simpa using hk)]
        match k, hk with
        | 0, _ => simp
        | 1, _ => simp [List.getElem?_append_right]
    · obtain ⟨u, hu⟩ := Option.isSome_iff_exists.1 (hsp 0 (by omega)).1
      have h2 := World.block_lt_of_cell? w _ hu
      have := hbl.size
      simp at h2
      omega
  · obtain ⟨v', w', hrun, ho, hgr⟩ := run_append_arg_grows (P := P) w t ty 5 i (.int .u8 0) 1 1 ht hi hz hsize hby rfl (by decide) ⟨b, 0, none⟩ zs.length cap (zs.map (Value.int .u8)) (by simp)
      (fun j u hu => by
        rw [hadd]
        by_cases hj : j < zs.length
        · rw [hat j hj]; simp [hj] at hu; simp [hj, hu]
        · simp [List.getElem?_eq_none (show (zs.map (Value.int .u8)).length ≤ j by simp; omega)] at hu)
      ⟨g, 0, none⟩ 2 c [.int .u8 p, .int .u8 q] rfl hnews (by omega) (by unfold maxLen; omega) (by omega)
    have hbl : Below B w w' := (Below.refl B w).grown hgr hBw (by intro k e; cases e)
    rcases ho.2 with ⟨_, h0⟩ | ⟨g', cap', cur, hv, hbg, hg, _⟩
    · omega
    · subst hv
      refine ⟨g', cap', w', hrun, fun j hj => ?_, hbl, (Array.getElem?_eq_some_iff.1 hg).1⟩
      rw [List.length_append] at hj
      have h3 := ho.cellAt j (by simpa using hj)
      rw [h3]
      have : zs.map (Value.int .u8) ++ [Value.int .u8 p, Value.int .u8 q] = (zs ++ [p, q]).map (Value.int .u8) := by simp
      rw [this]
      have hj' : j < (zs ++ [p, q]).length := by rw [List.length_append]; exact hj
      simp only [List.getElem?_map, List.getElem?_eq_getElem hj', Option.map_some, List.getD_eq_getElem?_getD, Option.getD_some]

/-- append(b, p, q) as one step of a region that draws its order. -/
theorem step_append_two {P : Program} {ops : Array Oper} {o : Oper} {a : Act} {w : World} {K : Act → World → Prop} {Q : Exit → Act → World → Prop} {E : Prop} (hgd : o.guard = none) (s x : Operand) (t : TypeId)
    (ho : o.op = .call { callee := .builtin .append, args := #[s, x], argTypes := #[t, t] })
    (i : TypeInfo) (ht : P.underlying t = some (.slice 5)) (hi : P.info? 5 = some i) (hz : i.zero = some (.int .u8 0)) (hsize : i.size = 1) (hby : i.bytes = 1)
    (b cap : Nat) (zs : List Int) (n : Nat) (hs : a.eval s = .slice (some ⟨b, 0, none⟩) n cap) (hn : zs.length = n) (hat : At w b zs) (hspare : ∀ j, n ≤ j → j < cap → (w.cell? ⟨b, j, none⟩).isSome = true ∧ w.frozen? ⟨b, j, none⟩ = false)
    (g c : Nat) (p q : Int) (hx : a.eval x = .slice (some ⟨g, 0, none⟩) 2 c) (hnw : At w g [p, q]) (B : Nat) (hB : B ≤ b) (hBw : B ≤ w.heap.size) (hb : n ≤ 1048576)
    (h : ∀ b' c' w', At w' b' (zs ++ [p, q]) → Below B w w' → b' < w'.heap.size → K (a.put o.dst (.slice (some ⟨b', 0, none⟩) (n + 2) c')) w') :
    if Region.wanted o (yielded ops a.tmps) = true then Oper.wp P o a w K Q else E := by
  have hw : Region.wanted o (yielded ops a.tmps) = true := by simp [Region.wanted, hgd]
  rw [if_pos hw]
  obtain ⟨b', c', w', hrun, h1, h2, h3⟩ := append_two (P := P) w t o.type i ht hi hz hsize hby b cap zs n hn hat hspare g c p q hnw B hB hBw hb
  unfold Oper.wp
  simp [execOp, ho, resolve, invoke, builtin, hs, hx, hrun, Result.andThen]
  exact h b' c' w' h1 h2 h3
end Go.Proofs.Qxb6609012aFmt
