import Derived.Test.Qxb6608688aBase
import Derived.RegionTactic
namespace Go.Proofs.Qxb6608688a
open Go.RowKit
set_option linter.unusedSimpArgs false
set_option linter.unusedVariables false
section
variable {P : Program} (w : World)

/-- append(v, x...), v the call's own bytes, x a slice of bytes that can be read (nil among them). -/
theorem run_append_rd (base t ty : Nat) (i : TypeInfo) (ht : P.underlying t = some (.slice 5)) (hi : P.info? 5 = some i) (hz : i.zero = some (.int .u8 0)) (hsize : i.size = 1) (hby : i.bytes = 1)
    (v : Value) (zs0 : List Int) (hown : Owns w base v zs0) (ad : Option Addr) (m c B : Nat) (zs : List Int) (hm : zs.length = m) (hn : ad = none → c = 0) (hr : Rd w B ad zs)
    (hb : zs0.length + m ≤ 140737488355328) (hbase : base ≤ w.heap.size) :
    ∃ v' w', (Builtin.append_ #[t, t] ty #[v, .slice ad m c]).run P w = .ok v' w' ∧ Owns w' base v' (zs0 ++ zs) ∧ w.grownBy w' v.ownBlock := by
  subst hm
  have h63 : zs0.length + zs.length ≤ maxLen := by unfold maxLen; omega
  have fin : ∀ v' w', w'.ownsRow base 5 1 v' (zs0.length + zs.length) (cs8 zs0 ++ cs8 zs) → Owns w' base v' (zs0 ++ zs) := by
    intro v' w' h
    unfold Owns
    rw [List.length_append, cs8_append]
    exact h
  cases ad with
  | none =>
    have hz0 : zs = [] := by
      rcases hr with h | ⟨b, o, h, _⟩
      · exact h
      · cases h
    subst hz0
    rw [hn rfl]
    refine ⟨v, w, run_append_owned_none (P := P) (w := w) base t ty 5 i 1 ht hi v _ _ hown, by rw [List.append_nil]; exact hown, ⟨rfl, rfl, rfl, Nat.le_refl _, fun _ _ _ => rfl⟩⟩
  | some x =>
    have hnews : ∀ j u, (cs8 zs)[j]? = some u → w.cell? (x.add j) = some u := by
      rcases hr with h | ⟨b, o, h, _, hc⟩
      · subst h; intro j u hu; simp [cs8] at hu
      · injection h with h; subst h; exact Rd.news (B := B) hc
    obtain ⟨v', w', h1, h2, h3, _⟩ := run_append_own (P := P) w base t ty 5 i (.int .u8 0) 1 1 ht hi hz hsize hby rfl (by decide) v _ _ hown x zs.length c (cs8 zs) (by rw [cs8_length, Nat.mul_one]) hnews (cs8_one zs) h63 (by omega) hbase
    exact ⟨v', w', h1, fin v' w' h2, h3⟩

/-- append(v, s...), s a string. -/
theorem run_append_str (base t u ty : Nat) (i : TypeInfo) (ht : P.underlying t = some (.slice 5)) (hu : P.underlying u = some .string) (hi : P.info? 5 = some i) (hz : i.zero = some (.int .u8 0)) (hsize : i.size = 1) (hby : i.bytes = 1)
    (v : Value) (zs0 : List Int) (hown : Owns w base v zs0) (s : ByteArray) (hb : zs0.length + s.size ≤ 140737488355328) (hbase : base ≤ w.heap.size) :
    ∃ v' w', (Builtin.append_ #[t, u] ty #[v, .string s]).run P w = .ok v' w' ∧ Owns w' base v' (zs0 ++ sb s) ∧ w.grownBy w' v.ownBlock := by
  obtain ⟨v', w', h1, h2, h3, _⟩ := Lib.run_append_own_string (P := P) w base t u ty 5 i ht hu hi hz hsize hby v _ _ hown s (by unfold maxLen; omega) hb hbase
  refine ⟨v', w', h1, ?_, h3⟩
  unfold Owns
  rw [List.length_append, cs8_append, sb_length, ← strCells_sb]
  exact h2

theorem wp_append_rd {o : Oper} {a : Act} {K : Act → World → Prop} {Q : Exit → Act → World → Prop} (s x : Operand) (t : TypeId)
    (ho : o.op = .call { callee := .builtin .append, args := #[s, x], argTypes := #[t, t] })
    (base : Nat) (i : TypeInfo) (ht : P.underlying t = some (.slice 5)) (hi : P.info? 5 = some i) (hz : i.zero = some (.int .u8 0)) (hsize : i.size = 1) (hby : i.bytes = 1)
    (v : Value) (zs0 : List Int) (hs : a.eval s = v) (hown : Owns w base v zs0) (ad : Option Addr) (m c B : Nat) (zs : List Int) (hx : a.eval x = .slice ad m c) (hm : zs.length = m) (hn : ad = none → c = 0) (hr : Rd w B ad zs)
    (hb : zs0.length + m ≤ 140737488355328) (hbase : base ≤ w.heap.size)
    (h : ∀ v' w', Owns w' base v' (zs0 ++ zs) → w.grownBy w' v.ownBlock → K (a.put o.dst v') w') : o.wp P a w K Q := by
  obtain ⟨v', w', hr', h2, h3⟩ := run_append_rd (P := P) w base t o.type i ht hi hz hsize hby v zs0 hown ad m c B zs hm hn hr hb hbase
  unfold Oper.wp execOp
  simp only [ho, resolve, invoke, builtin, Sem.run_bind, Sem.run_pure, Result.andThen_ok, List.map_toArray, List.map_cons, List.map_nil, hs, hx, hr']
  exact h v' w' h2 h3

theorem wp_append_str {o : Oper} {a : Act} {K : Act → World → Prop} {Q : Exit → Act → World → Prop} (sl x : Operand) (t u : TypeId)
    (ho : o.op = .call { callee := .builtin .append, args := #[sl, x], argTypes := #[t, u] })
    (base : Nat) (i : TypeInfo) (ht : P.underlying t = some (.slice 5)) (hu : P.underlying u = some .string) (hi : P.info? 5 = some i) (hz : i.zero = some (.int .u8 0)) (hsize : i.size = 1) (hby : i.bytes = 1)
    (v : Value) (zs0 : List Int) (hs : a.eval sl = v) (hown : Owns w base v zs0) (s : ByteArray) (hx : a.eval x = .string s)
    (hb : zs0.length + s.size ≤ 140737488355328) (hbase : base ≤ w.heap.size)
    (h : ∀ v' w', Owns w' base v' (zs0 ++ sb s) → w.grownBy w' v.ownBlock → K (a.put o.dst v') w') : o.wp P a w K Q := by
  obtain ⟨v', w', hr', h2, h3⟩ := run_append_str (P := P) w base t u o.type i ht hu hi hz hsize hby v zs0 hown s hb hbase
  unfold Oper.wp execOp
  simp only [ho, resolve, invoke, builtin, Sem.run_bind, Sem.run_pure, Result.andThen_ok, List.map_toArray, List.map_cons, List.map_nil, hs, hx, hr']
  exact h v' w' h2 h3

theorem wpList_append_rd {ops : Array Oper} {rest : List Oper} {o : Oper} {a : Act} {Q : Exit → Act → World → Prop} (hgd : o.guard = none) (s x : Operand) (t : TypeId)
    (ho : o.op = .call { callee := .builtin .append, args := #[s, x], argTypes := #[t, t] })
    (base : Nat) (i : TypeInfo) (ht : P.underlying t = some (.slice 5)) (hi : P.info? 5 = some i) (hz : i.zero = some (.int .u8 0)) (hsize : i.size = 1) (hby : i.bytes = 1)
    (v : Value) (zs0 : List Int) (hs : a.eval s = v) (hown : Owns w base v zs0) (ad : Option Addr) (m c B : Nat) (zs : List Int) (hx : a.eval x = .slice ad m c) (hm : zs.length = m) (hn : ad = none → c = 0) (hr : Rd w B ad zs)
    (hb : zs0.length + m ≤ 140737488355328) (hbase : base ≤ w.heap.size)
    (h : ∀ v' w', Owns w' base v' (zs0 ++ zs) → w.grownBy w' v.ownBlock → wpList P ops Q rest (a.put o.dst v') w') : wpList P ops Q (o :: rest) a w :=
  wpList_plain hgd fun _ hK => wp_append_rd w s x t ho base i ht hi hz hsize hby v zs0 hs hown ad m c B zs hx hm hn hr hb hbase fun v' w' h2 h3 => hK _ _ (h v' w' h2 h3)

theorem wpList_append_str {ops : Array Oper} {rest : List Oper} {o : Oper} {a : Act} {Q : Exit → Act → World → Prop} (hgd : o.guard = none) (sl x : Operand) (t u : TypeId)
    (ho : o.op = .call { callee := .builtin .append, args := #[sl, x], argTypes := #[t, u] })
    (base : Nat) (i : TypeInfo) (ht : P.underlying t = some (.slice 5)) (hu : P.underlying u = some .string) (hi : P.info? 5 = some i) (hz : i.zero = some (.int .u8 0)) (hsize : i.size = 1) (hby : i.bytes = 1)
    (v : Value) (zs0 : List Int) (hs : a.eval sl = v) (hown : Owns w base v zs0) (s : ByteArray) (hx : a.eval x = .string s)
    (hb : zs0.length + s.size ≤ 140737488355328) (hbase : base ≤ w.heap.size)
    (h : ∀ v' w', Owns w' base v' (zs0 ++ sb s) → w.grownBy w' v.ownBlock → wpList P ops Q rest (a.put o.dst v') w') : wpList P ops Q (o :: rest) a w :=
  wpList_plain hgd fun _ hK => wp_append_str w sl x t u ho base i ht hu hi hz hsize hby v zs0 hs hown s hx hb hbase fun v' w' h2 h3 => hK _ _ (h v' w' h2 h3)

/-- At a step of a region that draws its order. -/
theorem step_append_str {ops : Array Oper} {o : Oper} {a : Act} {K : Act → World → Prop} {Q : Exit → Act → World → Prop} {E : Prop} (hgd : o.guard = none) (sl x : Operand) (t u : TypeId)
    (ho : o.op = .call { callee := .builtin .append, args := #[sl, x], argTypes := #[t, u] })
    (base : Nat) (i : TypeInfo) (ht : P.underlying t = some (.slice 5)) (hu : P.underlying u = some .string) (hi : P.info? 5 = some i) (hz : i.zero = some (.int .u8 0)) (hsize : i.size = 1) (hby : i.bytes = 1)
    (v : Value) (zs0 : List Int) (hs : a.eval sl = v) (hown : Owns w base v zs0) (s : ByteArray) (hx : a.eval x = .string s)
    (hb : zs0.length + s.size ≤ 140737488355328) (hbase : base ≤ w.heap.size)
    (h : ∀ v' w', Owns w' base v' (zs0 ++ sb s) → w.grownBy w' v.ownBlock → K (a.put o.dst v') w') :
    if Region.wanted o (yielded ops a.tmps) = true then Oper.wp P o a w K Q else E := by
  have hw : Region.wanted o (yielded ops a.tmps) = true := by simp [Region.wanted, hgd]
  rw [if_pos hw]
  exact wp_append_str w sl x t u ho base i ht hu hi hz hsize hby v zs0 hs hown s hx hb hbase h
end

theorem Owns.empty (w : World) (base : Nat) : Owns w base (.slice none 0 0) [] := World.ownsRow_nil w base 5 1
end Go.Proofs.Qxb6608688a
