import Derived.Test.Qxb6608909aDoorProg
import Derived.Test.Qxb6608909aDoorBase
import Derived.KernelRfl
namespace Go.Proofs.Qxb6608909aDoor
open Go.RowKit
set_option linter.unusedSimpArgs false
set_option linter.unusedVariables false

theorem info5 : (Tryd.prog.info? 5).map (fun i => (i.zero, i.size, i.bytes)) = some (some (.int .u8 0), 1, 1) := by kernel_rfl
theorem info22 : (Tryd.prog.info? 22).map (fun i => (i.zero, i.size, i.bytes)) = some (some (.slice none 0 0), 1, 24) := by kernel_rfl

set_option maxHeartbeats 1000000 in
theorem eq_any (x y : Option Addr) (la ca lb cb : Nat) (za zb : List Int) (w : World) (B : Nat) (hla : za.length = la) (hlb : zb.length = lb) (ma : la ≤ 4194304) (mb : lb ≤ 4194304) (hB : B ≤ w.heap.size) (hx : Rd w B x za) (hy : Rd w B y zb) :
    Calls Tryd.prog 12 #[.slice x la ca, .slice y lb cb] w fun e w' => e = .returned (.bool (decide (za = zb))) ∧ Below w.heap.size w w' := by
  by_cases hne : la = lb
  · subst hne
    have HX : Hid (Rd w B x za) := hx
    have HY : Hid (Rd w B y zb) := hy
    have LA : Hid (za.length = la) := hla
    have LB : Hid (zb.length = la) := hlb
    clear hx hy hla hlb
    go_enter Tryd.func12, Tryd.ntmps12
    go_wp2
    go_loopw [5] (fun i wr => ∃ k : Nat, k ≤ la ∧ i = .int .i64 k ∧ Hid (∀ j, j < k → za.getD j 0 = zb.getD j 0) ∧ Below w.heap.size w wr) (fun i _ => la - (intOf i).toNat)
    case atStart => exact ⟨0, by omega, rfl, fun j hj => by omega, Below.refl _ _⟩
    case round =>
      obtain ⟨k, hk, rfl, HK, hb⟩ := hrel
      by_cases hlt : k < la
      · rcases HX.out with h | ⟨b1, o1, hx, hb1, hc1⟩
        · rw [h] at LA; have := LA.out; simp at this; omega
        rcases HY.out with h | ⟨b2, o2, hy, hb2, hc2⟩
        · rw [h] at LB; have := LB.out; simp at this; omega
        subst hx
        subst hy
        have hcp : wr.cell? ⟨b1, o1 + k, none⟩ = some (.int .u8 (za.getD k 0)) := (hb.cell (p := ⟨b1, o1 + k, none⟩) (by simp; omega)).trans (hc1 k (by rw [LA.out]; exact hlt))
        have hcq : wr.cell? ⟨b2, o2 + k, none⟩ = some (.int .u8 (zb.getD k 0)) := (hb.cell (p := ⟨b2, o2 + k, none⟩) (by simp; omega)).trans (hc2 k (by rw [LB.out]; exact hlt))
        obtain ⟨p, hp⟩ : ∃ p, za.getD k 0 = p := ⟨_, rfl⟩
        obtain ⟨q, hq⟩ : ∃ q, zb.getD k 0 = q := ⟨_, rfl⟩
        rw [hp] at hcp
        rw [hq] at hcq
        have HP : Hid (za.getD k 0 = p) := hp
        have HQ : Hid (zb.getD k 0 = q) := hq
        clear hp hq hc1 hc2
        have i1 : (0 : Int) ≤ (k : Int) := by omega
        have i2 : (k : Int) < (la : Int) := by omega
        by_cases hpq : p = q
        · have hpq' : (p != q) = false := by simp [hpq]
          have HPQ : Hid (p = q) := hpq
          clear hpq
          go_wp2
          go_region
          all_goals
            go_wp2
            go_roundw
            case rel =>
              refine ⟨k + 1, by omega, by go_num, fun j hj => ?_, hb.drew⟩
              by_cases e : j = k
              · subst e; rw [HP.out, HQ.out]; exact HPQ.out
              · exact HK.out j (by omega)
            case measure => simp [intOf]; omega
        · have hpq' : (p != q) = true := by simp [hpq]
          have E : Hid (decide (za = zb) = false) := by
            apply decide_eq_false
            intro e
            apply hpq
            rw [← HP.out, ← HQ.out, e]
          clear hpq
          go_wp2
          go_region
          all_goals
            go_wp2
            go_ret
            exact ⟨by rw [E.out]; rfl, hb.drew⟩
      · have E : Hid (decide (za = zb) = true) := by
          apply decide_eq_true
          exact list_eq_of (by rw [LA.out, LB.out]) (fun j hj => HK.out j (by have := LA.out; omega))
        go_wp2
        go_ret
        exact ⟨by rw [E.out]; rfl, hb⟩
  · have E : Hid (decide (za = zb) = false) := by
      apply decide_eq_false
      intro e
      apply hne
      rw [← hla, ← hlb, e]
    have h1 : ((la : Int) != (lb : Int)) = true := by simp; omega
    clear hne
    go_enter Tryd.func12, Tryd.ntmps12
    go_wp2
    go_ret
    exact ⟨by rw [E.out]; rfl, Below.refl _ _⟩

theorem eq_sl (u v : Value) (za zb : List Int) (w : World) (hu : Sl w u za) (hv : Sl w v zb) (la : za.length ≤ 4194304) (lb : zb.length ≤ 4194304) :
    Calls Tryd.prog 12 #[u, v] w fun e w' => e = .returned (.bool (decide (za = zb))) ∧ Below w.heap.size w w' := by
  obtain ⟨a, c, rfl, hr, hn⟩ := hu
  obtain ⟨a', c', rfl, hr', hn'⟩ := hv
  exact eq_any a a' _ c _ c' za zb w w.heap.size rfl rfl la lb (Nat.le_refl _) hr hr'
end Go.Proofs.Qxb6608909aDoor
