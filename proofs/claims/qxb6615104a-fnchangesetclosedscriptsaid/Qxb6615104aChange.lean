import Derived.Test.Qxb6615104aTime2
namespace Go.Proofs.Qxb6615104a
open Go.RowKit
set_option linter.unusedSimpArgs false
set_option linter.unusedVariables false

/-- What a change at block b holds: its closing time (cn, cs) and its turning time (tn, ts). -/
structure St (w : World) (b : Nat) (cn cs tn ts : Int) : Prop where
  lt : b < w.heap.size
  c6 : w.cell? ⟨b, 6, none⟩ = some (.int .u64 cn)
  c7 : w.cell? ⟨b, 7, none⟩ = some (.int .i64 cs)
  c8 : w.cell? ⟨b, 8, none⟩ = some (.pointer none)
  c9 : w.cell? ⟨b, 9, none⟩ = some (.int .u64 tn)
  c10 : w.cell? ⟨b, 10, none⟩ = some (.int .i64 ts)
  c11 : w.cell? ⟨b, 11, none⟩ = some (.pointer none)
  f6 : w.frozen? ⟨b, 6, none⟩ = false
  f7 : w.frozen? ⟨b, 7, none⟩ = false
  f8 : w.frozen? ⟨b, 8, none⟩ = false
  f9 : w.frozen? ⟨b, 9, none⟩ = false
  f10 : w.frozen? ⟨b, 10, none⟩ = false
  f11 : w.frozen? ⟨b, 11, none⟩ = false

theorem St.kept {w w' : World} {b : Nat} {cn cs tn ts : Int} (h : St w b cn cs tn ts) (hs : w.heap.size ≤ w'.heap.size) (hb : w'.heap[b]? = w.heap[b]?) : St w' b cn cs tn ts := by
  have hc : ∀ o, w'.cell? ⟨b, o, none⟩ = w.cell? ⟨b, o, none⟩ := fun o => World.cell?_of_block (a := ⟨b, o, none⟩) hb
  have hf : ∀ o, w'.frozen? ⟨b, o, none⟩ = w.frozen? ⟨b, o, none⟩ := fun o => World.frozen?_of_block (a := ⟨b, o, none⟩) hb
  exact ⟨Nat.lt_of_lt_of_le h.lt hs, (hc 6).trans h.c6, (hc 7).trans h.c7, (hc 8).trans h.c8, (hc 9).trans h.c9, (hc 10).trans h.c10, (hc 11).trans h.c11,
    (hf 6).trans h.f6, (hf 7).trans h.f7, (hf 8).trans h.f8, (hf 9).trans h.f9, (hf 10).trans h.f10, (hf 11).trans h.f11⟩

theorem St.below {w w' : World} {b B : Nat} {cn cs tn ts : Int} (h : St w b cn cs tn ts) (hb : Below B w w') (hB : b < B) : St w' b cn cs tn ts := h.kept hb.size (hb.block b hB)

set_option maxHeartbeats 400000 in
theorem newChange_any (w : World) :
    Calls Try.prog 6 #[] w fun e w' => e = .returned (.pointer (some ⟨w.heap.size, 0, none⟩)) ∧ St w' w.heap.size 0 0 0 0 ∧ Below w.heap.size w w' := by
  go_enter Try.func6, Try.ntmps6
  go_wp2
  go_ret
  refine ⟨rfl, ?_, (Below.refl _ _).alloc (Nat.le_refl _) _⟩
  constructor <;> simp

set_option maxHeartbeats 400000 in
theorem setClosed_skip (b : Nat) (cn cs tn ts an as' ln ls : Int) (w : World) (S : St w b cn cs tn ts) (a0 : 0 ≤ an) (a1 : an < 1073741824) (t0 : 0 ≤ tn) (t1 : tn < 1073741824) (hz : ¬ (an = 0 ∧ as' = 0)) (hl : as' < ts ∨ as' = ts ∧ an < tn) :
    Calls Try.prog 11 #[.pointer (some ⟨b, 0, none⟩), .agg #[.int .u64 an, .int .i64 as', .pointer none], .agg #[.int .u64 ln, .int .i64 ls, .pointer none]] w fun e w' => e = .returned (.tuple #[]) ∧ Below w.heap.size w w' := by
  obtain ⟨lt, c6, c7, c8, c9, c10, c11, f6, f7, f8, f9, f10, f11⟩ := S
  have H1 : Hid (¬ (an = 0 ∧ as' = 0)) := hz
  have H2 : Hid (as' < ts ∨ as' = ts ∧ an < tn) := hl
  clear hz hl
  go_enter Try.func11, Try.ntmps11
  go_wp2
  go_region_with (go_at_call 14; refine (earlier_yes an as' tn ts _ a0 a1 t0 t1 H1.out H2.out).mono ?_; rintro e w1 ⟨rfl, hb⟩)
  all_goals go_wp2
  all_goals exact bodyPost_ret (v := .tuple #[]) (results_none rfl _ _ _) rfl ⟨rfl, ((((Below.refl _ _).alloc (Nat.le_refl _) _).alloc (by simp) _).drew).trans (hb.mono (by simp; omega))⟩

theorem two_new {w w1 : World} {o1 o2 : Obj} (hb : Below ((w.alloc o1).alloc o2).drew.heap.size ((w.alloc o1).alloc o2).drew w1) : Below w.heap.size w w1 :=
  ((((Below.refl _ _).alloc (Nat.le_refl _) _).alloc (by simp) _).drew).trans (hb.mono (by simp; omega))

theorem grown_of_below {w w' : World} {b : Option Nat} (h : Below w.heap.size w w') : w.grownBy w' b := ⟨h.os, h.tape, h.output, h.size, fun k hk _ => h.block k hk⟩
theorem grown_set {w w' : World} {b : Nat} {o : Nat} {v : Value} (h : w.grownBy w' (some b)) : w.grownBy (w'.setCell ⟨b, o, none⟩ v) (some b) :=
  ⟨h.os, h.tape, h.output, by simpa using h.size, fun k hk hne => by rw [Below.heap_setCell _ _ _ _ (by intro e; exact hne (by rw [e]))]; exact h.block k hk hne⟩
theorem grown_below {w w' w'' : World} {b : Option Nat} (h : w.grownBy w' b) (k : Below w'.heap.size w' w'') : w.grownBy w'' b :=
  ⟨k.os.trans h.os, k.tape.trans h.tape, k.output.trans h.output, Nat.le_trans h.size k.size, fun i hi hne => (k.block i (Nat.lt_of_lt_of_le hi h.size)).trans (h.block i hi hne)⟩
theorem grown_drew {w w' : World} {b : Option Nat} (h : w.grownBy w' b) : w.grownBy w'.drew b := ⟨h.os, h.tape, h.output, h.size, h.block⟩

theorem cell_set_same {w : World} {b o : Nat} {v u : Value} (h : w.cell? ⟨b, o, none⟩ = some u) : (w.setCell ⟨b, o, none⟩ v).cell? ⟨b, o, none⟩ = some v := World.cell?_setCell_same _ _ _ h
theorem cell_set_off {w : World} {b o o' : Nat} {v : Value} (h : o ≠ o') : (w.setCell ⟨b, o, none⟩ v).cell? ⟨b, o', none⟩ = w.cell? ⟨b, o', none⟩ := World.cell?_setCell_other _ _ _ _ (by intro e; injection e with _ e2 _; exact h e2)
theorem cell_set_block {w : World} {b b' o o' : Nat} {v : Value} (h : b ≠ b') : (w.setCell ⟨b, o, none⟩ v).cell? ⟨b', o', none⟩ = w.cell? ⟨b', o', none⟩ := World.cell?_setCell_other _ _ _ _ (by intro e; injection e with e1 _ _; exact h e1)

theorem St.setClosed {w : World} {b : Nat} {cn cs tn ts : Int} (h : St w b cn cs tn ts) (ln ls : Int) :
    St (((w.setCell ⟨b, 6, none⟩ (.int .u64 ln)).setCell ⟨b, 7, none⟩ (.int .i64 ls)).setCell ⟨b, 8, none⟩ (.pointer none)) b ln ls tn ts := by
  obtain ⟨lt, c6, c7, c8, c9, c10, c11, f6, f7, f8, f9, f10, f11⟩ := h
  refine ⟨by simpa using lt, ?_, ?_, ?_, ?_, ?_, ?_, by simpa using f6, by simpa using f7, by simpa using f8, by simpa using f9, by simpa using f10, by simpa using f11⟩
  · rw [cell_set_off (by decide), cell_set_off (by decide), cell_set_same c6]
  · rw [cell_set_off (by decide), cell_set_same (u := .int .i64 cs)]; rw [cell_set_off (by decide)]; exact c7
  · rw [cell_set_same (u := .pointer none)]; rw [cell_set_off (by decide), cell_set_off (by decide)]; exact c8
  · rw [cell_set_off (by decide), cell_set_off (by decide), cell_set_off (by decide)]; exact c9
  · rw [cell_set_off (by decide), cell_set_off (by decide), cell_set_off (by decide)]; exact c10
  · rw [cell_set_off (by decide), cell_set_off (by decide), cell_set_off (by decide)]; exact c11

theorem St.setTurned {w : World} {b : Nat} {cn cs tn ts : Int} (h : St w b cn cs tn ts) (ln ls : Int) :
    St (((w.setCell ⟨b, 9, none⟩ (.int .u64 ln)).setCell ⟨b, 10, none⟩ (.int .i64 ls)).setCell ⟨b, 11, none⟩ (.pointer none)) b cn cs ln ls := by
  obtain ⟨lt, c6, c7, c8, c9, c10, c11, f6, f7, f8, f9, f10, f11⟩ := h
  refine ⟨by simpa using lt, ?_, ?_, ?_, ?_, ?_, ?_, by simpa using f6, by simpa using f7, by simpa using f8, by simpa using f9, by simpa using f10, by simpa using f11⟩
  · rw [cell_set_off (by decide), cell_set_off (by decide), cell_set_off (by decide)]; exact c6
  · rw [cell_set_off (by decide), cell_set_off (by decide), cell_set_off (by decide)]; exact c7
  · rw [cell_set_off (by decide), cell_set_off (by decide), cell_set_off (by decide)]; exact c8
  · rw [cell_set_off (by decide), cell_set_off (by decide), cell_set_same c9]
  · rw [cell_set_off (by decide), cell_set_same (u := .int .i64 ts)]; rw [cell_set_off (by decide)]; exact c10
  · rw [cell_set_same (u := .pointer none)]; rw [cell_set_off (by decide), cell_set_off (by decide)]; exact c11

/-- A time that lies in a block of its own. -/
structure Bx (w : World) (b : Nat) (n s : Int) : Prop where
  c0 : w.cell? ⟨b, 0, none⟩ = some (.int .u64 n)
  c1 : w.cell? ⟨b, 1, none⟩ = some (.int .i64 s)
  c2 : w.cell? ⟨b, 2, none⟩ = some (.pointer none)

theorem Bx.set3 {w : World} {b c : Nat} {n s : Int} (h : Bx w b n s) (hne : c ≠ b) (o1 o2 o3 : Nat) (v1 v2 v3 : Value) :
    Bx (((w.setCell ⟨c, o1, none⟩ v1).setCell ⟨c, o2, none⟩ v2).setCell ⟨c, o3, none⟩ v3) b n s := by
  obtain ⟨c0, c1, c2⟩ := h
  refine ⟨?_, ?_, ?_⟩ <;> (rw [cell_set_block hne, cell_set_block hne, cell_set_block hne]; assumption)

theorem Bx.below {w w' : World} {b B : Nat} {n s : Int} (h : Bx w b n s) (hb : Below B w w') (hB : b < B) : Bx w' b n s :=
  ⟨(hb.cell (p := ⟨b, 0, none⟩) hB).trans h.c0, (hb.cell (p := ⟨b, 1, none⟩) hB).trans h.c1, (hb.cell (p := ⟨b, 2, none⟩) hB).trans h.c2⟩

theorem bx_first {w w1 : World} {n s : Int} {o2 : Obj} (hb : Below ((w.alloc (.cells #[.int .u64 n, .int .i64 s, .pointer none] 35)).alloc o2).drew.heap.size ((w.alloc (.cells #[.int .u64 n, .int .i64 s, .pointer none] 35)).alloc o2).drew w1) : Bx w1 w.heap.size n s := by
  have h : Bx ((w.alloc (.cells #[.int .u64 n, .int .i64 s, .pointer none] 35)).alloc o2).drew w.heap.size n s := by
    constructor <;> simp
  exact h.below hb (by simp; omega)

theorem grown_set3 {w w' : World} {b : Nat} (h : w.grownBy w' (some b)) (o1 o2 o3 : Nat) (v1 v2 v3 : Value) : w.grownBy (((w'.setCell ⟨b, o1, none⟩ v1).setCell ⟨b, o2, none⟩ v2).setCell ⟨b, o3, none⟩ v3) (some b) :=
  grown_set (grown_set (grown_set h))

set_option maxHeartbeats 800000 in
theorem setClosed_set (b : Nat) (cn cs tn ts an as' ln ls : Int) (w : World) (S : St w b cn cs tn ts) (a0 : 0 ≤ an) (a1 : an < 1073741824) (t0 : 0 ≤ tn) (t1 : tn < 1073741824) (hz : ¬ (¬ (an = 0 ∧ as' = 0) ∧ (as' < ts ∨ as' = ts ∧ an < tn))) (hl : ¬ (ts < as' ∨ as' = ts ∧ tn < an)) :
    Calls Try.prog 11 #[.pointer (some ⟨b, 0, none⟩), .agg #[.int .u64 an, .int .i64 as', .pointer none], .agg #[.int .u64 ln, .int .i64 ls, .pointer none]] w fun e w' => e = .returned (.tuple #[]) ∧ St w' b ln ls tn ts ∧ w.grownBy w' (some b) := by
  obtain ⟨lt, c6, c7, c8, c9, c10, c11, f6, f7, f8, f9, f10, f11⟩ := id S
  have H1 : Hid (¬ (¬ (an = 0 ∧ as' = 0) ∧ (as' < ts ∨ as' = ts ∧ an < tn))) := hz
  have H2 : Hid (decide (ts < as' ∨ as' = ts ∧ tn < an) = false) := decide_eq_false hl
  clear hz hl
  go_enter Try.func11, Try.ntmps11
  go_wp2
  go_region_with (go_at_call 14; refine (earlier_no an as' tn ts _ a0 a1 t0 t1 H1.out).mono ?_; rintro e w1 ⟨rfl, hb⟩; obtain ⟨hc, hf⟩ := bcell hb; have hz := hb.size)
  all_goals
    have bw := two_new hb
    have bx := bx_first hb
    have S1 := S.below bw lt
    obtain ⟨lt1, d6, d7, d8, d9, d10, d11, g6, g7, g8, g9, g10, g11⟩ := id S1
    clear hb c6 c7 c8 c9 c10 c11 f6 f7 f8 f9 f10 f11
    go_wp2
    clear d6 d7 d8 d9 d10 d11 g6 g7 g8 g9 g10 g11 hc hf
    have S2 := S1.setClosed ln ls
    have bx2 := bx.set3 (c := b) (by omega) 6 7 8 (.int .u64 ln) (.int .i64 ls) (.pointer none)
    have G2 := grown_set3 (grown_of_below (b := some b) bw) 6 7 8 (.int .u64 ln) (.int .i64 ls) (.pointer none)
    clear S S1 bx bw hz lt1 lt
    generalize ((w1.setCell ⟨b, 6, none⟩ (.int .u64 ln)).setCell ⟨b, 7, none⟩ (.int .i64 ls)).setCell ⟨b, 8, none⟩ (.pointer none) = W2 at *
    obtain ⟨x0, x1, x2⟩ := bx2
    obtain ⟨lt, c6, c7, c8, c9, c10, c11, f6, f7, f8, f9, f10, f11⟩ := id S2
    go_region_with (go_at_call 15; refine (after_core an as' tn ts _ a0 a1 t0 t1).mono ?_; rw [H2.out]; rintro e w3 ⟨rfl, hb⟩)
    all_goals
      go_wp2
      go_end0
      have hb' := (Below.drew (Below.refl W2.heap.size W2)).trans hb
      exact ⟨rfl, S2.below hb' lt, grown_below G2 hb'⟩

set_option maxHeartbeats 800000 in
theorem setClosed_turn (b : Nat) (cn cs tn ts an as' ln ls : Int) (w : World) (S : St w b cn cs tn ts) (a0 : 0 ≤ an) (a1 : an < 1073741824) (t0 : 0 ≤ tn) (t1 : tn < 1073741824) (hz : ¬ (¬ (an = 0 ∧ as' = 0) ∧ (as' < ts ∨ as' = ts ∧ an < tn))) (hl : ts < as' ∨ as' = ts ∧ tn < an) :
    Calls Try.prog 11 #[.pointer (some ⟨b, 0, none⟩), .agg #[.int .u64 an, .int .i64 as', .pointer none], .agg #[.int .u64 ln, .int .i64 ls, .pointer none]] w fun e w' => e = .returned (.tuple #[]) ∧ St w' b ln ls an as' ∧ w.grownBy w' (some b) := by
  obtain ⟨lt, c6, c7, c8, c9, c10, c11, f6, f7, f8, f9, f10, f11⟩ := id S
  have H1 : Hid (¬ (¬ (an = 0 ∧ as' = 0) ∧ (as' < ts ∨ as' = ts ∧ an < tn))) := hz
  have H2 : Hid (decide (ts < as' ∨ as' = ts ∧ tn < an) = true) := decide_eq_true hl
  clear hz hl
  go_enter Try.func11, Try.ntmps11
  go_wp2
  go_region_with (go_at_call 14; refine (earlier_no an as' tn ts _ a0 a1 t0 t1 H1.out).mono ?_; rintro e w1 ⟨rfl, hb⟩; obtain ⟨hc, hf⟩ := bcell hb; have hz := hb.size)
  all_goals
    have bw := two_new hb
    have bx := bx_first hb
    have S1 := S.below bw lt
    obtain ⟨lt1, d6, d7, d8, d9, d10, d11, g6, g7, g8, g9, g10, g11⟩ := id S1
    have hws : w.heap.size < w1.heap.size := by simp at hz; omega
    clear hb c6 c7 c8 c9 c10 c11 f6 f7 f8 f9 f10 f11
    go_wp2
    clear d6 d7 d8 d9 d10 d11 g6 g7 g8 g9 g10 g11 hc hf
    have S2 := S1.setClosed ln ls
    have bx2 := bx.set3 (c := b) (by omega) 6 7 8 (.int .u64 ln) (.int .i64 ls) (.pointer none)
    have G2 := grown_set3 (grown_of_below (b := some b) bw) 6 7 8 (.int .u64 ln) (.int .i64 ls) (.pointer none)
    have hws2 : w.heap.size < (((w1.setCell ⟨b, 6, none⟩ (.int .u64 ln)).setCell ⟨b, 7, none⟩ (.int .i64 ls)).setCell ⟨b, 8, none⟩ (.pointer none)).heap.size := by simpa using hws
    clear S S1 bx bw hz lt1 lt hws
    generalize ((w1.setCell ⟨b, 6, none⟩ (.int .u64 ln)).setCell ⟨b, 7, none⟩ (.int .i64 ls)).setCell ⟨b, 8, none⟩ (.pointer none) = W2 at *
    obtain ⟨x0, x1, x2⟩ := id bx2
    obtain ⟨lt, c6, c7, c8, c9, c10, c11, f6, f7, f8, f9, f10, f11⟩ := id S2
    go_region_with (go_at_call 15; refine (after_core an as' tn ts _ a0 a1 t0 t1).mono ?_; rw [H2.out]; rintro e w3 ⟨rfl, hb⟩)
    all_goals
      have hb' := (Below.drew (Below.refl W2.heap.size W2)).trans hb
      have S3 := S2.below hb' lt
      have bx3 := bx2.below hb' hws2
      have G3 := grown_below G2 hb'
      clear x0 x1 x2 c6 c7 c8 c9 c10 c11 f6 f7 f8 f9 f10 f11 hb
      obtain ⟨x0, x1, x2⟩ := id bx3
      obtain ⟨lt3, c6, c7, c8, c9, c10, c11, f6, f7, f8, f9, f10, f11⟩ := id S3
      go_wp2
      go_end0
      exact ⟨rfl, S3.setTurned an as', grown_set3 G3 9 10 11 _ _ _⟩

/-! ### The same, said of nanoseconds -/

def StN (w : World) (b : Nat) (c t : Int) : Prop := St w b (c % 1000000000) (c / 1000000000) (t % 1000000000) (t / 1000000000)
def stepC (c t a l : Int) : Int := if a ≠ 0 ∧ a < t then c else l
def stepT (t a : Int) : Int := if t < a then a else t

theorem setClosed_ns (b : Nat) (c t a l : Int) (w : World) (S : StN w b c t) :
    Calls Try.prog 11 #[.pointer (some ⟨b, 0, none⟩), .agg #[.int .u64 (a % 1000000000), .int .i64 (a / 1000000000), .pointer none], .agg #[.int .u64 (l % 1000000000), .int .i64 (l / 1000000000), .pointer none]] w fun e w' => e = .returned (.tuple #[]) ∧ StN w' b (stepC c t a l) (stepT t a) ∧ w.grownBy w' (some b) := by
  by_cases h : a ≠ 0 ∧ a < t
  · have e1 : stepC c t a l = c := if_pos h
    have e2 : stepT t a = t := if_neg (by omega)
    rw [e1, e2]
    refine (setClosed_skip b _ _ _ _ _ _ _ _ w S (by omega) (by omega) (by omega) (by omega) (by omega) (by omega)).mono ?_
    rintro e w' ⟨rfl, hb⟩
    exact ⟨rfl, St.below S hb S.lt, grown_of_below hb⟩
  · have e1 : stepC c t a l = l := if_neg h
    rw [e1]
    by_cases h2 : t < a
    · have e2 : stepT t a = a := if_pos h2
      rw [e2]
      exact setClosed_turn b _ _ _ _ _ _ _ _ w S (by omega) (by omega) (by omega) (by omega) (by omega) (by omega)
    · have e2 : stepT t a = t := if_neg h2
      rw [e2]
      exact setClosed_set b _ _ _ _ _ _ _ _ w S (by omega) (by omega) (by omega) (by omega) (by omega) (by omega)

set_option maxHeartbeats 400000 in
theorem zset_ns (b : Nat) (c t a l : Int) (w : World) (S : StN w b c t) (a0 : -9223372036854775808 ≤ a) (a1 : a ≤ 9223372036854775807) (l0 : -9223372036854775808 ≤ l) (l1 : l ≤ 9223372036854775807) :
    Calls Try.prog 7 #[.pointer (some ⟨b, 0, none⟩), .int .i64 a, .int .i64 l] w fun e w' => e = .returned (.tuple #[]) ∧ StN w' b (stepC c t a l) (stepT t a) ∧ w.grownBy w' (some b) := by
  have lt := S.lt
  go_enter Try.func7, Try.ntmps7
  go_wp2_with fail
  refine (ztime_ns a (a % 1000000000) (a / 1000000000) _ (by omega) (by omega) (by omega) a0 a1).mono ?_
  rintro e w1 ⟨rfl, hb1⟩
  go_wp2_with fail
  refine (ztime_ns l (l % 1000000000) (l / 1000000000) _ (by omega) (by omega) (by omega) l0 l1).mono ?_
  rintro e w2 ⟨rfl, hb2⟩
  have hs := hb1.size
  have hb : Below w.heap.size w w2 := hb1.trans (hb2.mono (by omega))
  go_wp2_with fail
  refine (setClosed_ns b c t a l w2 (St.below S hb lt)).mono ?_
  rintro e w3 ⟨rfl, S3, G3⟩
  go_wp2_with fail
  go_end0
  exact ⟨rfl, S3, G3.os.trans hb.os, G3.tape.trans hb.tape, G3.output.trans hb.output, Nat.le_trans hb.size G3.size, fun k hk hne => (G3.block k (by have := hb.size; omega) hne).trans (hb.block k hk)⟩

set_option maxHeartbeats 400000 in
theorem zclosed_ns (b : Nat) (c t : Int) (w : World) (S : StN w b c t) (a0 : -9223372036854775808 ≤ c) (a1 : c ≤ 9223372036854775807) :
    Calls Try.prog 9 #[.pointer (some ⟨b, 0, none⟩)] w fun e w' => e = .returned (.int .i64 c) ∧ Below w.heap.size w w' := by
  obtain ⟨lt, c6, c7, c8, c9, c10, c11, f6, f7, f8, f9, f10, f11⟩ := id S
  go_enter Try.func9, Try.ntmps9
  go_wp2_with fail
  refine (znanos_ns c (c % 1000000000) (c / 1000000000) _ (by omega) (by omega) (by omega) a0 a1).mono ?_
  rintro e w1 ⟨rfl, hb1⟩
  go_wp2_with fail
  go_ret
  exact ⟨rfl, hb1⟩

set_option maxHeartbeats 400000 in
theorem zturned_ns (b : Nat) (c t : Int) (w : World) (S : StN w b c t) (a0 : -9223372036854775808 ≤ t) (a1 : t ≤ 9223372036854775807) :
    Calls Try.prog 10 #[.pointer (some ⟨b, 0, none⟩)] w fun e w' => e = .returned (.int .i64 t) ∧ Below w.heap.size w w' := by
  obtain ⟨lt, c6, c7, c8, c9, c10, c11, f6, f7, f8, f9, f10, f11⟩ := id S
  go_enter Try.func10, Try.ntmps10
  go_wp2_with fail
  refine (znanos_ns t (t % 1000000000) (t / 1000000000) _ (by omega) (by omega) (by omega) a0 a1).mono ?_
  rintro e w1 ⟨rfl, hb1⟩
  go_wp2_with fail
  go_ret
  exact ⟨rfl, hb1⟩
end Go.Proofs.Qxb6615104a
