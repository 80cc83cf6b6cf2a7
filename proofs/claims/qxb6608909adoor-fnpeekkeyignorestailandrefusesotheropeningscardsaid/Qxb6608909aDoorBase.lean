import Derived.WalkKit
import Derived.WalkSpells
import Derived.Lib.AppendStr
import Derived.Laws.AppendOwnNone
import Derived.Laws.CopyOwn
import Derived.RegionTactic
namespace Go.Proofs.Qxb6608909aDoor
open Go.RowKit
set_option linter.unusedSimpArgs false
set_option linter.unusedVariables false

/-- Bytes, as cells. -/
def cs8 (zs : List Int) : List Value := zs.map (Value.int .u8)
theorem cs8_length (zs : List Int) : (cs8 zs).length = zs.length := by simp [cs8]
theorem cs8_append (a b : List Int) : cs8 (a ++ b) = cs8 a ++ cs8 b := by simp [cs8]
theorem cs8_one (zs : List Int) : ∀ u ∈ cs8 zs, u.oneCell' = true := by
  intro u hu
  simp only [cs8, List.mem_map] at hu
  obtain ⟨b, _, rfl⟩ := hu
  rfl

/-- A string's bytes, as numbers. -/
def sb (s : ByteArray) : List Int := s.data.toList.map fun b => (b.toNat : Int)
theorem sb_length (s : ByteArray) : (sb s).length = s.size := by simp [sb]
theorem strCells_sb (s : ByteArray) : Lib.strCells s = cs8 (sb s) := by simp [Lib.strCells, cs8, sb, Function.comp_def]

/-- The value v, a slice of the call's own blocks from 'base' on, holds just the bytes zs. -/
def Owns (w : World) (base : Nat) (v : Value) (zs : List Int) : Prop := w.ownsRow base 5 1 v zs.length (cs8 zs)

/-- The bytes zs can be read from the address a, all of it below block B. -/
def Rd (w : World) (B : Nat) (a : Option Addr) (zs : List Int) : Prop :=
  zs = [] ∨ ∃ b o, a = some ⟨b, o, none⟩ ∧ b < B ∧ ∀ j, j < zs.length → w.cell? ⟨b, o + j, none⟩ = some (.int .u8 (zs.getD j 0))

theorem Rd.below {w w' : World} {B B' : Nat} {a : Option Addr} {zs : List Int} (h : Rd w B a zs) (hb : Below B' w w') (hB : B ≤ B') : Rd w' B a zs := by
  rcases h with h | ⟨b, o, ha, hlt, hc⟩
  · exact .inl h
  · exact .inr ⟨b, o, ha, hlt, fun j hj => (hb.cell (p := ⟨b, o + j, none⟩) (by simp; omega)).trans (hc j hj)⟩

theorem Rd.up {w : World} {B B' : Nat} {a : Option Addr} {zs : List Int} (h : Rd w B a zs) (hB : B ≤ B') : Rd w B' a zs := by
  rcases h with h | ⟨b, o, ha, hlt, hc⟩
  · exact .inl h
  · exact .inr ⟨b, o, ha, by omega, hc⟩

theorem cs8_getElem? (zs : List Int) (j : Nat) (hj : j < zs.length) : (cs8 zs)[j]? = some (.int .u8 (zs.getD j 0)) := by
  simp [cs8, hj]

theorem Owns.form {w : World} {base : Nat} {v : Value} {zs : List Int} (h : Owns w base v zs) :
    ∃ a cap, v = .slice a zs.length cap ∧ Rd w w.heap.size a zs ∧ (a = none → cap = 0) ∧ zs.length ≤ cap := by
  rcases h.2 with ⟨h1, h2⟩ | ⟨g, cap, cur, rfl, hb, hg, hn, hm, hc, ht⟩
  · refine ⟨none, 0, ?_, .inl (List.eq_nil_of_length_eq_zero h2), fun _ => rfl, by omega⟩
    rw [h1, h2]
  · refine ⟨_, cap, rfl, .inr ⟨g, 0, rfl, ?_, fun j hj => ?_⟩, (fun e => by cases e), hn⟩
    · rcases Nat.lt_or_ge g w.heap.size with hlt | hge
      · exact hlt
      · rw [Array.getElem?_eq_none hge] at hg; cases hg
    · have hh : w.ownsRow base 5 1 (.slice (some ⟨g, 0, none⟩) zs.length cap) zs.length (cs8 zs) := h
      have := hh.cellAt j (by omega)
      rw [Nat.zero_add, this, cs8_getElem? zs j hj]

/-- What was appended reads so where it lies: for the append laws. -/
theorem Rd.news {w : World} {B b o : Nat} {zs : List Int} (hc : ∀ j, j < zs.length → w.cell? ⟨b, o + j, none⟩ = some (.int .u8 (zs.getD j 0))) :
    ∀ j u, (cs8 zs)[j]? = some u → w.cell? ((⟨b, o, none⟩ : Addr).add j) = some u := by
  intro j u hu
  by_cases hj : j < zs.length
  · rw [cs8_getElem? zs j hj] at hu
    have hadd : (⟨b, o, none⟩ : Addr).add j = ⟨b, o + j, none⟩ := by unfold Addr.add; split <;> simp_all
    rw [hadd, hc j hj]; exact hu
  · rw [List.getElem?_eq_none (by rw [cs8_length]; omega)] at hu; cases hu

theorem getD_take {zs : List Int} {n j : Nat} (h : j < n) : (zs.take n).getD j 0 = zs.getD j 0 := by
  simp [List.getElem?_take, h]
theorem getD_drop {zs : List Int} {n j : Nat} : (zs.drop n).getD j 0 = zs.getD (n + j) 0 := by
  simp [List.getElem?_drop]

theorem Rd.take {w : World} {B : Nat} {a : Option Addr} {zs : List Int} (h : Rd w B a zs) (n : Nat) : Rd w B a (zs.take n) := by
  rcases h with h | ⟨b, o, ha, hlt, hc⟩
  · exact .inl (by rw [h]; simp)
  · refine .inr ⟨b, o, ha, hlt, fun j hj => ?_⟩
    rw [List.length_take] at hj
    rw [getD_take (by omega)]
    exact hc j (by omega)

theorem Rd.drop {w : World} {B b o : Nat} {zs : List Int} (n : Nat) (h : b < B) (hc : ∀ j, j < zs.length → w.cell? ⟨b, o + j, none⟩ = some (.int .u8 (zs.getD j 0))) : Rd w B (some ⟨b, o + n, none⟩) (zs.drop n) := by
  refine .inr ⟨b, o + n, rfl, h, fun j hj => ?_⟩
  rw [List.length_drop] at hj
  rw [getD_drop, Nat.add_assoc]
  exact hc (n + j) (by omega)

/-- A make or an append by the kit's laws, and what it does to old memory. -/
theorem below_grown {B : Nat} {w w' : World} {v : Value} {base : Nat} {zs : List Int} (hg : w.grownBy w' v.ownBlock) (ho : Owns w base v zs) (hB : B ≤ base) (hs : base ≤ w.heap.size) : Below B w w' := by
  refine (Below.refl B w).grown hg (by omega) ?_
  intro k hk
  rcases ho.2 with ⟨h1, h2⟩ | ⟨g, cap, cur, rfl, hb, hgg, hn, hm, hc, ht⟩
  · rw [h1] at hk; simp [Value.ownBlock] at hk
  · simp [Value.ownBlock] at hk; omega

theorem Owns.below {w w' : World} {base B : Nat} {v : Value} {zs : List Int} (h : Owns w base v zs) (hb : Below B w w') (hB : w.heap.size ≤ B) : Owns w' base v zs := by
  refine ⟨h.1, ?_⟩
  rcases h.2 with h1 | ⟨g, cap, cur, hv, hbg, hg, rest⟩
  · exact .inl h1
  · refine .inr ⟨g, cap, cur, hv, hbg, ?_, rest⟩
    rw [hb.block g (by have := (Array.getElem?_eq_some_iff.1 hg).1; omega)]
    exact hg

theorem Owns.drew {w : World} {base : Nat} {v : Value} {zs : List Int} (h : Owns w base v zs) : Owns w.drew base v zs := h
section
variable {P : Program} (w : World)

/-- append(v, x...), v the call's own bytes, x a slice of bytes that can be read (nil among them). -/
theorem run_append_rd (base t ty : Nat) (i : TypeInfo) (ht : P.underlying t = some (.slice 5)) (hi : P.info? 5 = some i) (hz : i.zero = some (.int .u8 0)) (hsize : i.size = 1) (hby : i.bytes = 1)
    (v : Value) (zs0 : List Int) (hown : Owns w base v zs0) (ad : Option Addr) (m c B : Nat) (zs : List Int) (hm : zs.length = m) (hn : ad = none → c = 0) (hr : Rd w B ad zs)
    (hb : zs0.length + m ≤ 140737488355328) (hbase : base ≤ w.heap.size) :
    ∃ v' w', (Builtin.append_ #[t, t] ty #[v, .slice ad m c]).run P w = .ok v' w' ∧ Owns w' base v' (zs0 ++ zs) ∧ w.grownBy w' v.ownBlock := by
  subst hm
  have h63 : zs0.length + zs.length ≤ maxLen := by unfold maxLen; omega
  have fin : ∀ v' w', w'.ownsRow base 5 1 v' (zs0.length + zs.length) (cs8 zs0 ++ cs8 zs) → Owns w' base v' (zs0 ++ zs) := by
    intro v' w' h
    unfold Owns
    rw [List.length_append, cs8_append]
    exact h
  cases ad with
  | none =>
    have hz0 : zs = [] := by
      rcases hr with h | ⟨b, o, h, _⟩
      · exact h
      · cases h
    subst hz0
    rw [hn rfl]
    refine ⟨v, w, run_append_owned_none (P := P) (w := w) base t ty 5 i 1 ht hi v _ _ hown, by rw [List.append_nil]; exact hown, ⟨rfl, rfl, rfl, Nat.le_refl _, fun _ _ _ => rfl⟩⟩
  | some x =>
    have hnews : ∀ j u, (cs8 zs)[j]? = some u → w.cell? (x.add j) = some u := by
      rcases hr with h | ⟨b, o, h, _, hc⟩
      · subst h; intro j u hu; simp [cs8] at hu
      · injection h with h; subst h; exact Rd.news (B := B) hc
    obtain ⟨v', w', h1, h2, h3, _⟩ := run_append_own (P := P) w base t ty 5 i (.int .u8 0) 1 1 ht hi hz hsize hby rfl (by decide) v _ _ hown x zs.length c (cs8 zs) (by rw [cs8_length, Nat.mul_one]) hnews (cs8_one zs) h63 (by omega) hbase
    exact ⟨v', w', h1, fin v' w' h2, h3⟩

/-- append(v, s...), s a string. -/
theorem run_append_str (base t u ty : Nat) (i : TypeInfo) (ht : P.underlying t = some (.slice 5)) (hu : P.underlying u = some .string) (hi : P.info? 5 = some i) (hz : i.zero = some (.int .u8 0)) (hsize : i.size = 1) (hby : i.bytes = 1)
    (v : Value) (zs0 : List Int) (hown : Owns w base v zs0) (s : ByteArray) (hb : zs0.length + s.size ≤ 140737488355328) (hbase : base ≤ w.heap.size) :
    ∃ v' w', (Builtin.append_ #[t, u] ty #[v, .string s]).run P w = .ok v' w' ∧ Owns w' base v' (zs0 ++ sb s) ∧ w.grownBy w' v.ownBlock := by
  obtain ⟨v', w', h1, h2, h3, _⟩ := Lib.run_append_own_string (P := P) w base t u ty 5 i ht hu hi hz hsize hby v _ _ hown s (by unfold maxLen; omega) hb hbase
  refine ⟨v', w', h1, ?_, h3⟩
  unfold Owns
  rw [List.length_append, cs8_append, sb_length, ← strCells_sb]
  exact h2

theorem wp_append_rd {o : Oper} {a : Act} {K : Act → World → Prop} {Q : Exit → Act → World → Prop} (s x : Operand) (t : TypeId)
    (ho : o.op = .call { callee := .builtin .append, args := #[s, x], argTypes := #[t, t] })
    (base : Nat) (i : TypeInfo) (ht : P.underlying t = some (.slice 5)) (hi : P.info? 5 = some i) (hz : i.zero = some (.int .u8 0)) (hsize : i.size = 1) (hby : i.bytes = 1)
    (v : Value) (zs0 : List Int) (hs : a.eval s = v) (hown : Owns w base v zs0) (ad : Option Addr) (m c B : Nat) (zs : List Int) (hx : a.eval x = .slice ad m c) (hm : zs.length = m) (hn : ad = none → c = 0) (hr : Rd w B ad zs)
    (hb : zs0.length + m ≤ 140737488355328) (hbase : base ≤ w.heap.size)
    (h : ∀ v' w', Owns w' base v' (zs0 ++ zs) → w.grownBy w' v.ownBlock → K (a.put o.dst v') w') : o.wp P a w K Q := by
  obtain ⟨v', w', hr', h2, h3⟩ := run_append_rd (P := P) w base t o.type i ht hi hz hsize hby v zs0 hown ad m c B zs hm hn hr hb hbase
  unfold Oper.wp execOp
  simp only [ho, resolve, invoke, builtin, Sem.run_bind, Sem.run_pure, Result.andThen_ok, List.map_toArray, List.map_cons, List.map_nil, hs, hx, hr']
  exact h v' w' h2 h3

theorem wp_append_str {o : Oper} {a : Act} {K : Act → World → Prop} {Q : Exit → Act → World → Prop} (sl x : Operand) (t u : TypeId)
    (ho : o.op = .call { callee := .builtin .append, args := #[sl, x], argTypes := #[t, u] })
    (base : Nat) (i : TypeInfo) (ht : P.underlying t = some (.slice 5)) (hu : P.underlying u = some .string) (hi : P.info? 5 = some i) (hz : i.zero = some (.int .u8 0)) (hsize : i.size = 1) (hby : i.bytes = 1)
    (v : Value) (zs0 : List Int) (hs : a.eval sl = v) (hown : Owns w base v zs0) (s : ByteArray) (hx : a.eval x = .string s)
    (hb : zs0.length + s.size ≤ 140737488355328) (hbase : base ≤ w.heap.size)
    (h : ∀ v' w', Owns w' base v' (zs0 ++ sb s) → w.grownBy w' v.ownBlock → K (a.put o.dst v') w') : o.wp P a w K Q := by
  obtain ⟨v', w', hr', h2, h3⟩ := run_append_str (P := P) w base t u o.type i ht hu hi hz hsize hby v zs0 hown s hb hbase
  unfold Oper.wp execOp
  simp only [ho, resolve, invoke, builtin, Sem.run_bind, Sem.run_pure, Result.andThen_ok, List.map_toArray, List.map_cons, List.map_nil, hs, hx, hr']
  exact h v' w' h2 h3

theorem wpList_append_rd {ops : Array Oper} {rest : List Oper} {o : Oper} {a : Act} {Q : Exit → Act → World → Prop} (hgd : o.guard = none) (s x : Operand) (t : TypeId)
    (ho : o.op = .call { callee := .builtin .append, args := #[s, x], argTypes := #[t, t] })
    (base : Nat) (i : TypeInfo) (ht : P.underlying t = some (.slice 5)) (hi : P.info? 5 = some i) (hz : i.zero = some (.int .u8 0)) (hsize : i.size = 1) (hby : i.bytes = 1)
    (v : Value) (zs0 : List Int) (hs : a.eval s = v) (hown : Owns w base v zs0) (ad : Option Addr) (m c B : Nat) (zs : List Int) (hx : a.eval x = .slice ad m c) (hm : zs.length = m) (hn : ad = none → c = 0) (hr : Rd w B ad zs)
    (hb : zs0.length + m ≤ 140737488355328) (hbase : base ≤ w.heap.size)
    (h : ∀ v' w', Owns w' base v' (zs0 ++ zs) → w.grownBy w' v.ownBlock → wpList P ops Q rest (a.put o.dst v') w') : wpList P ops Q (o :: rest) a w :=
  wpList_plain hgd fun _ hK => wp_append_rd w s x t ho base i ht hi hz hsize hby v zs0 hs hown ad m c B zs hx hm hn hr hb hbase fun v' w' h2 h3 => hK _ _ (h v' w' h2 h3)

theorem wpList_append_str {ops : Array Oper} {rest : List Oper} {o : Oper} {a : Act} {Q : Exit → Act → World → Prop} (hgd : o.guard = none) (sl x : Operand) (t u : TypeId)
    (ho : o.op = .call { callee := .builtin .append, args := #[sl, x], argTypes := #[t, u] })
    (base : Nat) (i : TypeInfo) (ht : P.underlying t = some (.slice 5)) (hu : P.underlying u = some .string) (hi : P.info? 5 = some i) (hz : i.zero = some (.int .u8 0)) (hsize : i.size = 1) (hby : i.bytes = 1)
    (v : Value) (zs0 : List Int) (hs : a.eval sl = v) (hown : Owns w base v zs0) (s : ByteArray) (hx : a.eval x = .string s)
    (hb : zs0.length + s.size ≤ 140737488355328) (hbase : base ≤ w.heap.size)
    (h : ∀ v' w', Owns w' base v' (zs0 ++ sb s) → w.grownBy w' v.ownBlock → wpList P ops Q rest (a.put o.dst v') w') : wpList P ops Q (o :: rest) a w :=
  wpList_plain hgd fun _ hK => wp_append_str w sl x t u ho base i ht hu hi hz hsize hby v zs0 hs hown s hx hb hbase fun v' w' h2 h3 => hK _ _ (h v' w' h2 h3)

/-- At a step of a region that draws its order. -/
theorem step_append_str {ops : Array Oper} {o : Oper} {a : Act} {K : Act → World → Prop} {Q : Exit → Act → World → Prop} {E : Prop} (hgd : o.guard = none) (sl x : Operand) (t u : TypeId)
    (ho : o.op = .call { callee := .builtin .append, args := #[sl, x], argTypes := #[t, u] })
    (base : Nat) (i : TypeInfo) (ht : P.underlying t = some (.slice 5)) (hu : P.underlying u = some .string) (hi : P.info? 5 = some i) (hz : i.zero = some (.int .u8 0)) (hsize : i.size = 1) (hby : i.bytes = 1)
    (v : Value) (zs0 : List Int) (hs : a.eval sl = v) (hown : Owns w base v zs0) (s : ByteArray) (hx : a.eval x = .string s)
    (hb : zs0.length + s.size ≤ 140737488355328) (hbase : base ≤ w.heap.size)
    (h : ∀ v' w', Owns w' base v' (zs0 ++ sb s) → w.grownBy w' v.ownBlock → K (a.put o.dst v') w') :
    if Region.wanted o (yielded ops a.tmps) = true then Oper.wp P o a w K Q else E := by
  have hw : Region.wanted o (yielded ops a.tmps) = true := by simp [Region.wanted, hgd]
  rw [if_pos hw]
  exact wp_append_str w sl x t u ho base i ht hu hi hz hsize hby v zs0 hs hown s hx hb hbase h
end

theorem Owns.empty (w : World) (base : Nat) : Owns w base (.slice none 0 0) [] := World.ownsRow_nil w base 5 1

theorem Owns.alloc {w : World} {base : Nat} {v : Value} {zs : List Int} (h : Owns w base v zs) (o : Obj) : Owns (w.alloc o) base v zs := World.ownsRow.alloc h o

theorem slice_form {w : World} {base : Nat} {v : Value} {zs : List Int} (h : Owns w base v zs) : ∃ a L c, v = .slice a L c := by
  obtain ⟨a, c, hv, _, _⟩ := h.form
  exact ⟨a, _, c, hv⟩

/-- v is a slice of bytes that reads as zs. -/
def Sl (w : World) (v : Value) (zs : List Int) : Prop := ∃ a c, v = .slice a zs.length c ∧ Rd w w.heap.size a zs ∧ (a = none → c = 0) ∧ zs.length ≤ c

theorem Owns.sl {w : World} {base : Nat} {v : Value} {zs : List Int} (h : Owns w base v zs) : Sl w v zs := h.form

theorem Sl.below {w w' : World} {v : Value} {zs : List Int} (h : Sl w v zs) (hb : Below w.heap.size w w') : Sl w' v zs := by
  obtain ⟨a, c, hv, hr, hn⟩ := h
  exact ⟨a, c, hv, (hr.below hb (Nat.le_refl _)).up hb.size, hn⟩

theorem rd_one (w : World) (p : Int) : Rd (w.alloc (.cells #[.int .u8 p] 5)) (w.heap.size + 1) (some ⟨w.heap.size, 0, none⟩) [p] := by
  refine .inr ⟨w.heap.size, 0, rfl, by omega, fun j hj => ?_⟩
  match j, hj with
  | 0, _ => simp

theorem rd_two (w : World) (p q : Int) : Rd (w.alloc (.cells #[.int .u8 p, .int .u8 q] 5)) (w.heap.size + 1) (some ⟨w.heap.size, 0, none⟩) [p, q] := by
  refine .inr ⟨w.heap.size, 0, rfl, by omega, fun j hj => ?_⟩
  match j, hj with
  | 0, _ => simp
  | 1, _ => simp

theorem bcell {W w1 : World} (hb : Below W.heap.size W w1) : (∀ b o, b < W.heap.size → w1.cell? ⟨b, o, none⟩ = W.cell? ⟨b, o, none⟩) ∧ (∀ b o, b < W.heap.size → w1.frozen? ⟨b, o, none⟩ = W.frozen? ⟨b, o, none⟩) :=
  ⟨fun b o h => hb.cell (p := ⟨b, o, none⟩) h, fun b o h => hb.frozen (p := ⟨b, o, none⟩) h⟩

theorem list_eq_of {za zb : List Int} (hl : za.length = zb.length) (h : ∀ j, j < za.length → za.getD j 0 = zb.getD j 0) : za = zb := by
  apply List.ext_getElem hl
  intro j h1 h2
  have := h j h1
  simpa [h1, h2] using this
end Go.Proofs.Qxb6608909aDoor
