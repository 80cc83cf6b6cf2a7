import Derived.Test.Qxb6608688aBytes
import Derived.Test.Qxb6608688aApp
namespace Go.Proofs.Qxb6608688a
open Go.RowKit
set_option linter.unusedSimpArgs false
set_option linter.unusedVariables false

set_option maxHeartbeats 1000000 in
theorem concat_any (x y : Option Addr) (la ca lb cb : Nat) (za zb : List Int) (w : World) (B : Nat) (hla : za.length = la) (hlb : zb.length = lb) (ma : la ≤ 4194304) (mb : lb ≤ 4194304) (hB : B ≤ w.heap.size) (nx : x = none → ca = 0) (ny : y = none → cb = 0) (hx : Rd w B x za) (hy : Rd w B y zb) :
    Calls Try.prog 9 #[.slice x la ca, .slice y lb cb] w fun e w' => ∃ v, e = .returned v ∧ Owns w' w.heap.size v (za ++ zb) ∧ Below w.heap.size w w' := by
  obtain ⟨i0, hi, hz0, hz1, hz2⟩ := info_parts info5
  have HX : Hid (Rd w B x za) := hx
  have HY : Hid (Rd w B y zb) := hy
  have LA : Hid (za.length = la) := hla
  have LB : Hid (zb.length = lb) := hlb
  have NX : Hid (x = none → ca = 0) := nx
  have NY : Hid (y = none → cb = 0) := ny
  clear hx hy hla hlb nx ny
  go_enter Try.func9, Try.ntmps9
  go_wp2_with (first
    | (at_make; refine wpList_make_own _ rfl (.const (.int .i64 0)) (.tmp 10) 22 rfl w.heap.size 5 i0 (.int .u8 0) 1 Try.underlying22 hi hz0 hz1 .i64 .i64 _ (la + lb) rfl rfl (by omega) (by rw [hz2]; omega) (by unfold maxLen; omega) (Nat.le_refl _) ?_; intro w1 hown hgrow; have hb1 : Below w.heap.size w w1 := (Below.refl _ _).grown hgrow (Nat.le_refl _) (by intro k e; cases e); have ho1 : Owns w1 w.heap.size (.slice (some ⟨w.heap.size, 0, none⟩) 0 (la + lb)) [] := hown; clear hown hgrow)
    | (at_builtin; refine wpList_append_rd _ rfl (.tmp 12) (.tmp 13) 22 rfl w.heap.size i0 Try.underlying22 hi hz0 hz1 hz2 _ [] rfl ho1 x la ca B za rfl LA.out NX.out (HX.out.below hb1 hB) (by simp; omega) hb1.size ?_; intro v2 w2 ho2 hg2; have hb2 := hb1.trans (below_grown hg2 ho1 (Nat.le_refl _) hb1.size); clear hg2)
    | (at_builtin; refine wpList_append_rd _ rfl (.tmp 15) (.tmp 16) 22 rfl w.heap.size i0 Try.underlying22 hi hz0 hz1 hz2 _ _ rfl ho2 y lb cb B zb rfl LB.out NY.out (HY.out.below hb2 hB) (by have := LA.out; simp; omega) hb2.size ?_; intro v3 w3 ho3 hg3; have hb3 := hb2.trans (below_grown hg3 ho2 (Nat.le_refl _) hb2.size); clear hg3))
  go_ret
  exact ⟨v3, rfl, ho3, hb3⟩
end Go.Proofs.Qxb6608688a
