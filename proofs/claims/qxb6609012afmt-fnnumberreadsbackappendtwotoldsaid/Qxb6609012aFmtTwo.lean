import Derived.Test.Qxb6609012aFmtBase
import Derived.Laws.BitsLemmas
namespace Go.Proofs.Qxb6609012aFmt
open Go.RowKit
set_option linter.unusedSimpArgs false
set_option linter.unusedVariables false

theorem at_alloc {w : World} {b : Nat} {zs : List Int} (h : At w b zs) (hb : b < w.heap.size) (o : Obj) : At (w.alloc o) b zs := by
  intro j hj
  rw [Below.cell (B := w.heap.size) ((Below.refl _ w).alloc (Nat.le_refl _) o) (p := ⟨b, j, none⟩) hb]
  exact h j hj
theorem spare_alloc {w : World} {b n cap : Nat} (h : ∀ j, n ≤ j → j < cap → (w.cell? ⟨b, j, none⟩).isSome = true ∧ w.frozen? ⟨b, j, none⟩ = false) (hb : b < w.heap.size) (o : Obj) :
    ∀ j, n ≤ j → j < cap → ((w.alloc o).cell? ⟨b, j, none⟩).isSome = true ∧ (w.alloc o).frozen? ⟨b, j, none⟩ = false := by
  intro j h1 h2
  have hb' : Below w.heap.size w (w.alloc o) := (Below.refl _ w).alloc (Nat.le_refl _) o
  rw [hb'.cell (p := ⟨b, j, none⟩) hb, hb'.frozen (p := ⟨b, j, none⟩) hb]
  exact h j h1 h2
theorem at_new (w : World) (p q : Int) : At (w.alloc (.cells #[.int .u8 p, .int .u8 q] 5)) w.heap.size [p, q] := by
  intro j hj
  match j, hj with
  | 0, _ => simp
  | 1, _ => simp

set_option maxRecDepth 20000 in
set_option maxHeartbeats 1000000 in
theorem two_any (b cap : Nat) (zs : List Int) (n N : Nat) (w : World) (hn : zs.length = n) (hat : At w b zs) (hbw : b < w.heap.size) (hspare : ∀ j, n ≤ j → j < cap → (w.cell? ⟨b, j, none⟩).isSome = true ∧ w.frozen? ⟨b, j, none⟩ = false) (hb : n ≤ 1048576) (hN : N < 100) :
    Calls Tryf.prog 9 #[.slice (some ⟨b, 0, none⟩) n cap, .int .i64 N] w fun e w' => ∃ b' c', e = .returned (.slice (some ⟨b', 0, none⟩) (n + 2) c') ∧ At w' b' (zs ++ [((48 + N / 10 : Nat) : Int), ((48 + N % 10 : Nat) : Int)]) ∧ Below b w w' ∧ b' < w'.heap.size := by
  obtain ⟨i0, hi, hz0, hz1, hz2⟩ := info_parts info5
  obtain ⟨p, hp⟩ : ∃ p, 48 + N / 10 = p := ⟨_, rfl⟩
  obtain ⟨q, hq⟩ : ∃ q, 48 + N % 10 = q := ⟨_, rfl⟩
  rw [hp, hq]
  have HP := Hid.intro' hp
  have HQ := Hid.intro' hq
  clear hp hq
  have HN : Hid (zs.length = n) := hn
  have HAT : Hid (At w b zs) := hat
  have HSP : Hid (∀ j, n ≤ j → j < cap → (w.cell? ⟨b, j, none⟩).isSome = true ∧ w.frozen? ⟨b, j, none⟩ = false) := hspare
  clear hn hat hspare
  go_enter Tryf.func9, Tryf.ntmps9
  go_wp2_with fail
  generalize hPS : ByteArray.mk (List.toArray _) = PS
  have hsz : PS.size = 200 := by rw [← hPS]; decide +kernel
  have hv : ∀ M : Fin 100, (PS.get! (2 * M.val)).toNat = 48 + M.val / 10 ∧ (PS.get! (2 * M.val + 1)).toNat = 48 + M.val % 10 := by rw [← hPS]; decide +kernel
  have hA : ∀ h, (PS[2 * N]'h).toNat = 48 + N / 10 := by
    intro h
    have h1 := (hv ⟨N, hN⟩).1
    have : PS.get! (2 * N) = PS[2 * N]'h := by
      show PS.data[2 * N]! = _
      rw [getElem!_pos PS.data (2 * N) h]
      rfl
    rw [← this]; exact h1
  have hB : ∀ h, (PS[2 * N + 1]'h).toNat = 48 + N % 10 := by
    intro h
    have h1 := (hv ⟨N, hN⟩).2
    have : PS.get! (2 * N + 1) = PS[2 * N + 1]'h := by
      show PS.data[2 * N + 1]! = _
      rw [getElem!_pos PS.data (2 * N + 1) h]
      rfl
    rw [← this]; exact h1
  have t1 : (2 * (N : Int)).toNat = 2 * N := by omega
  have t2 : (2 * (N : Int) + 1).toNat = 2 * N + 1 := by omega
  rw [HP.out] at hA
  rw [HQ.out] at hB
  have b1 : 0 ≤ 2 * (N : Int) := by omega
  have b2 : 2 * (N : Int) < 200 := by omega
  have b3 : 0 ≤ 2 * (N : Int) + 1 := by omega
  have b4 : 2 * (N : Int) + 1 < 200 := by omega
  have w1 : IntKind.i64.wrap (2 * (N : Int)) = 2 * (N : Int) := by rw [IntKind.wrap_i64]; omega
  have w2 : IntKind.i64.wrap (2 * (N : Int) + 1) = 2 * (N : Int) + 1 := by rw [IntKind.wrap_i64]; omega
  clear hv hPS
  go_region_law (refine step_append_two rfl (.tmp 5) (.tmp 13) 27 rfl i0 Tryf.underlying27 hi hz0 hz1 hz2 b cap zs n rfl HN.out (at_alloc HAT.out hbw _) (spare_alloc HSP.out hbw _) w.heap.size 2 p q rfl (at_new w p q) b (Nat.le_refl _) (by simp; omega) hb ?_; intro b' c' w2 h1 h2 h3)
  all_goals
    go_wp2
    go_ret
    exact ⟨b', c', rfl, h1, (((Below.refl b w).drew).alloc (by simp; omega) _).trans h2, h3⟩
end Go.Proofs.Qxb6609012aFmt
