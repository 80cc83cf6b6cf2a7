import Derived.Test.Qxb6608909aDoorPlain
import Derived.Test.Qxb6608909aDoorEq
import Derived.WalkLawsBesides
namespace Go.Proofs.Qxb6608909aDoor
open Go.RowKit
set_option linter.unusedSimpArgs false
set_option linter.unusedVariables false

/-- The table of powers of ten reads as it should, whatever is done from block B on. -/
def Tab (B : Nat) (w : World) : Prop := Lib.TabBelow Tryd.prog B w powName .u64 Lib.pow10Tab
theorem Tab.on {B : Nat} {w w1 : World} (h : Tab B w) (hb : Below B w w1) : Tab B w1 := Lib.TabBelow.on h hb
theorem Tab.fresh {B : Nat} {w : World} (h : Tab B w) : Tab w.heap.size w := Lib.tabBelow_of_tabIs (Lib.TabBelow.here h)

set_option maxHeartbeats 1000000 in
theorem header42 (base n : Nat) (v : Value) (zs : List Int) (w : World) (hn : n ≤ 9999999) (hl : zs.length ≤ 1073741824) (hb : base ≤ w.heap.size) (ho : Owns w base v zs) (ht : Tab base w) :
    Calls Tryd.prog 26 #[v, .int .i64 n] w fun e w' => ∃ v', e = .returned v' ∧ Owns w' base v' (zs ++ hdr 42 n) ∧ Below base w w' := by
  obtain ⟨i0, hi, hz0, hz1, hz2⟩ := info_parts info5
  have hoa := ho.alloc (.cells #[.int .u8 42] 5)
  have hba : Below base w (w.alloc (.cells #[.int .u8 42] 5)) := (Below.refl _ _).alloc hb _
  clear ho
  go_enter Tryd.func26, Tryd.ntmps26
  go_wp2_with (at_builtin; refine wpList_append_rd _ rfl (.tmp 5) (.tmp 6) 22 rfl base i0 Tryd.underlying22 hi hz0 hz1 hz2 v zs rfl hoa (some ⟨w.heap.size, 0, none⟩) 1 1 _ [42] rfl rfl (by intro e; cases e) (rd_one w 42) (by omega) (by simp; omega) ?_; intro v1 w1 ho1 hg1; have hb1 := hba.trans (below_grown hg1 hoa (Nat.le_refl _) (by simp; omega)))
  have hs1 := hb1.size
  refine (appendInt_own base n (by omega) v1 (zs ++ [42]) w1 ho1 (by omega) (by simp; omega) (ht.on hb1)).mono ?_
  rintro e w2 ⟨v2, rfl, ho2, hb2⟩
  have hs2 := hb2.size
  have hob := ho2.alloc (.cells #[.int .u8 13, .int .u8 10] 5)
  have hbb : Below base w (w2.alloc (.cells #[.int .u8 13, .int .u8 10] 5)) := (hb1.trans hb2).alloc (by omega) _
  have LL : Hid ((zs ++ [42] ++ num n).length + 2 ≤ 140737488355328) := by
    unfold Hid; rw [List.length_append, List.length_append]; have := num_len7 n hn; simp; omega
  clear hoa hba ho1 ho2 hg1
  go_wp2_with (at_builtin; refine wpList_append_rd _ rfl (.tmp 11) (.tmp 12) 22 rfl base i0 Tryd.underlying22 hi hz0 hz1 hz2 v2 (zs ++ [42] ++ num n) rfl hob (some ⟨w2.heap.size, 0, none⟩) 2 2 _ [13, 10] rfl rfl (by intro e; cases e) (rd_two w2 13 10) LL.out (by simp; omega) ?_; intro v3 w3 ho3 hg3; have hb3 := hbb.trans (below_grown hg3 hob (Nat.le_refl _) (by simp; omega)))
  go_ret
  refine ⟨v3, rfl, ?_, hb3⟩
  have e : zs ++ [42] ++ num n ++ [13, 10] = zs ++ hdr 42 n := by simp [hdr]
  rw [← e]
  exact ho3

set_option maxHeartbeats 1000000 in
theorem header36 (base n : Nat) (v : Value) (zs : List Int) (w : World) (hn : n ≤ 9999999) (hl : zs.length ≤ 1073741824) (hb : base ≤ w.heap.size) (ho : Owns w base v zs) (ht : Tab base w) :
    Calls Tryd.prog 36 #[v, .int .i64 n] w fun e w' => ∃ v', e = .returned v' ∧ Owns w' base v' (zs ++ hdr 36 n) ∧ Below base w w' := by
  obtain ⟨i0, hi, hz0, hz1, hz2⟩ := info_parts info5
  have hoa := ho.alloc (.cells #[.int .u8 36] 5)
  have hba : Below base w (w.alloc (.cells #[.int .u8 36] 5)) := (Below.refl _ _).alloc hb _
  clear ho
  go_enter Tryd.func36, Tryd.ntmps36
  go_wp2_with (at_builtin; refine wpList_append_rd _ rfl (.tmp 5) (.tmp 6) 22 rfl base i0 Tryd.underlying22 hi hz0 hz1 hz2 v zs rfl hoa (some ⟨w.heap.size, 0, none⟩) 1 1 _ [36] rfl rfl (by intro e; cases e) (rd_one w 36) (by omega) (by simp; omega) ?_; intro v1 w1 ho1 hg1; have hb1 := hba.trans (below_grown hg1 hoa (Nat.le_refl _) (by simp; omega)))
  have hs1 := hb1.size
  refine (appendInt_own base n (by omega) v1 (zs ++ [36]) w1 ho1 (by omega) (by simp; omega) (ht.on hb1)).mono ?_
  rintro e w2 ⟨v2, rfl, ho2, hb2⟩
  have hs2 := hb2.size
  have hob := ho2.alloc (.cells #[.int .u8 13, .int .u8 10] 5)
  have hbb : Below base w (w2.alloc (.cells #[.int .u8 13, .int .u8 10] 5)) := (hb1.trans hb2).alloc (by omega) _
  have LL : Hid ((zs ++ [36] ++ num n).length + 2 ≤ 140737488355328) := by
    unfold Hid; rw [List.length_append, List.length_append]; have := num_len7 n hn; simp; omega
  clear hoa hba ho1 ho2 hg1
  go_wp2_with (at_builtin; refine wpList_append_rd _ rfl (.tmp 11) (.tmp 12) 22 rfl base i0 Tryd.underlying22 hi hz0 hz1 hz2 v2 (zs ++ [36] ++ num n) rfl hob (some ⟨w2.heap.size, 0, none⟩) 2 2 _ [13, 10] rfl rfl (by intro e; cases e) (rd_two w2 13 10) LL.out (by simp; omega) ?_; intro v3 w3 ho3 hg3; have hb3 := hbb.trans (below_grown hg3 hob (Nat.le_refl _) (by simp; omega)))
  go_ret
  refine ⟨v3, rfl, ?_, hb3⟩
  have e : zs ++ [36] ++ num n ++ [13, 10] = zs ++ hdr 36 n := by simp [hdr]
  rw [← e]
  exact ho3

set_option maxHeartbeats 1000000 in
theorem bulk_any (base B : Nat) (v u : Value) (zs e : List Int) (w : World) (hn : e.length ≤ 9999999) (hl : zs.length ≤ 536870912) (hb : base ≤ w.heap.size) (ho : Owns w base v zs) (ht : Tab base w) (hB : B ≤ base) (a : Option Addr) (c : Nat) (hu : u = .slice a e.length c) (hnn : a = none → c = 0) (hr : Rd w B a e) :
    Calls Tryd.prog 27 #[v, u] w fun r w' => ∃ v', r = .returned v' ∧ Owns w' base v' (zs ++ bulk e) ∧ Below base w w' := by
  obtain ⟨i0, hi, hz0, hz1, hz2⟩ := info_parts info5
  subst hu
  obtain ⟨L, hL⟩ : ∃ L, e.length = L := ⟨_, rfl⟩
  rw [hL]
  have HL : Hid (e.length = L) := hL
  have HN : Hid (a = none → c = 0) := hnn
  have HR : Hid (Rd w B a e) := hr
  clear hnn hr
  rw [hL] at hn
  clear hL
  go_enter Tryd.func27, Tryd.ntmps27
  go_wp2_with fail
  refine (header36 base L v zs w hn (by omega) hb ho ht).mono ?_
  rintro r w1 ⟨v1, rfl, ho1, hb1⟩
  have hs1 := hb1.size
  have L1 : Hid ((zs ++ hdr 36 L).length + L ≤ 140737488355328) := by
    unfold Hid; rw [List.length_append, hdr_length]; have := num_len7 L hn; omega
  have L2 : Hid ((zs ++ hdr 36 L ++ e).length + 2 ≤ 140737488355328) := by
    unfold Hid; rw [List.length_append, HL.out]; have := L1.out; rw [List.length_append, hdr_length] at this ⊢; have := num_len7 L hn; omega
  clear ho
  go_wp2_with (first
    | (at_builtin; refine wpList_append_rd _ rfl (.tmp 9) (.tmp 10) 22 rfl base i0 Tryd.underlying22 hi hz0 hz1 hz2 v1 (zs ++ hdr 36 L) rfl ho1 a L c B e rfl HL.out HN.out (HR.out.below hb1 hB) L1.out (by omega) ?_; intro v2 w2 ho2 hg2; have hb2 := hb1.trans (below_grown hg2 ho1 (Nat.le_refl _) (by omega)); have hs2 := hb2.size; have hob := ho2.alloc (.cells #[.int .u8 13, .int .u8 10] 5); have hbb : Below base w (w2.alloc (.cells #[.int .u8 13, .int .u8 10] 5)) := hb2.alloc (by omega) _)
    | (at_builtin; refine wpList_append_rd _ rfl (.tmp 12) (.tmp 13) 22 rfl base i0 Tryd.underlying22 hi hz0 hz1 hz2 v2 (zs ++ hdr 36 L ++ e) rfl hob (some ⟨w2.heap.size, 0, none⟩) 2 2 _ [13, 10] rfl rfl (by intro e; cases e) (rd_two w2 13 10) L2.out (by simp; omega) ?_; intro v3 w3 ho3 hg3; have hb3 := hbb.trans (below_grown hg3 hob (Nat.le_refl _) (by simp; omega))))
  go_ret
  refine ⟨v3, rfl, ?_, hb3⟩
  have e1 : zs ++ hdr 36 L ++ e ++ [13, 10] = zs ++ bulk e := by
    unfold bulk; rw [HL.out]; simp only [List.append_assoc]
  rw [← e1]
  exact ho3

/-- A slice of byte slices, at the address a, reads as ess. -/
def Sll (w : World) (a : Option Addr) (ess : List (List Int)) : Prop :=
  ess = [] ∨ ∃ b o, a = some ⟨b, o, none⟩ ∧ b < w.heap.size ∧ ∀ j, j < ess.length → ∃ u, w.cell? ⟨b, o + j, none⟩ = some u ∧ Sl w u (ess.getD j [])

theorem Sll.below {w w' : World} {a : Option Addr} {ess : List (List Int)} (h : Sll w a ess) (hb : Below w.heap.size w w') : Sll w' a ess := by
  rcases h with h | ⟨b, o, ha, hlt, hc⟩
  · exact .inl h
  · refine .inr ⟨b, o, ha, by have := hb.size; omega, fun j hj => ?_⟩
    obtain ⟨u, h1, h2⟩ := hc j hj
    exact ⟨u, (hb.cell (p := ⟨b, o + j, none⟩) hlt).trans h1, h2.below hb⟩

theorem arr_prefix (ess : List (List Int)) (k : Nat) : (hdr 42 ess.length ++ (ess.take k).flatMap bulk).length ≤ (arr ess).length := by
  unfold arr
  rw [List.length_append, List.length_append]
  have h : (ess.take k).flatMap bulk ++ (ess.drop k).flatMap bulk = ess.flatMap bulk := by
    rw [← List.flatMap_append, List.take_append_drop]
  have := congrArg List.length h
  rw [List.length_append] at this
  omega
theorem take_snoc (ess : List (List Int)) (k : Nat) (h : k < ess.length) : (ess.take (k + 1)).flatMap bulk = (ess.take k).flatMap bulk ++ bulk (ess.getD k []) := by
  rw [List.take_succ_eq_append_getElem h, List.flatMap_append]
  simp [h]

set_option maxHeartbeats 1000000 in
theorem array_any (a : Option Addr) (len cap : Nat) (ess : List (List Int)) (w : World) (hlen : ess.length = len) (h1 : len ≤ 9999999) (h2 : ∀ e ∈ ess, e.length ≤ 9999999) (h3 : (arr ess).length ≤ 536870912) (hs : Sll w a ess) (ht : Tab w.heap.size w) :
    Calls Tryd.prog 11 #[.slice none 0 0, .slice a len cap] w fun r w' => ∃ v', r = .returned v' ∧ Owns w' w.heap.size v' (arr ess) ∧ Below w.heap.size w w' := by
  have HL : Hid (ess.length = len) := hlen
  have H2 : Hid (∀ e ∈ ess, e.length ≤ 9999999) := h2
  have H3 : Hid ((arr ess).length ≤ 536870912) := h3
  have HS : Hid (Sll w a ess) := hs
  clear hlen h2 h3 hs
  go_enter Tryd.func11, Tryd.ntmps11
  go_wp2_with fail
  refine (header42 w.heap.size len (.slice none 0 0) [] w h1 (by simp) (Nat.le_refl _) (Owns.empty _ _) ht).mono ?_
  rintro r w1 ⟨v1, rfl, ho1, hb1⟩
  rw [List.nil_append] at ho1
  go_wp2_with fail
  go_loopw [0, 13] (fun v i wr => ∃ k : Nat, k ≤ len ∧ i = .int .i64 k ∧ Owns wr w.heap.size v (hdr 42 ess.length ++ (ess.take k).flatMap bulk) ∧ Below w.heap.size w wr) (fun _ i _ => len - (intOf i).toNat)
  case atStart => exact ⟨0, by omega, rfl, by rw [HL.out]; simpa using ho1, hb1⟩
  case round =>
    clear ho1 hb1
    obtain ⟨k, hk, rfl, ho, hb⟩ := hrel
    have hsz := hb.size
    by_cases hlt : k < len
    · rcases HS.out with h | ⟨b, o, hx, hbB, hc⟩
      · rw [h] at HL; have := HL.out; simp at this; omega
      subst hx
      obtain ⟨u, hu1, hu2⟩ := hc k (by rw [HL.out]; exact hlt)
      have hcu : wr.cell? ⟨b, o + k, none⟩ = some u := (hb.cell (p := ⟨b, o + k, none⟩) hbB).trans hu1
      obtain ⟨au, cu, hu3, hu4, hu5, hu6⟩ := hu2
      have hmem : (ess.getD k []).length ≤ 9999999 := by
        have hk' : k < ess.length := by rw [HL.out]; exact hlt
        rw [List.getD_eq_getElem?_getD, List.getElem?_eq_getElem hk']
        exact H2.out _ (List.getElem_mem hk')
      have hpre : (hdr 42 ess.length ++ (ess.take k).flatMap bulk).length ≤ 536870912 := Nat.le_trans (arr_prefix ess k) H3.out
      have HST := take_snoc ess k (by rw [HL.out]; exact hlt)
      obtain ⟨e, he⟩ : ∃ e, ess.getD k [] = e := ⟨_, rfl⟩
      obtain ⟨Z, hZ⟩ : ∃ Z, hdr 42 ess.length ++ (ess.take k).flatMap bulk = Z := ⟨_, rfl⟩
      rw [he] at hu3 hu4 hu6 hmem HST
      rw [hZ] at ho hpre
      have HST2 : Hid (hdr 42 ess.length ++ (ess.take (k + 1)).flatMap bulk = Z ++ bulk e) := by
        unfold Hid; rw [HST, ← List.append_assoc, hZ]
      clear HST he hZ hc
      have HU3 : Hid (u = .slice au e.length cu) := hu3
      clear hu3
      have i1 : (0 : Int) ≤ (k : Int) := by omega
      have i2 : (k : Int) < (len : Int) := by omega
      go_wp2_with fail
      refine (bulk_any w.heap.size w.heap.size _ u Z e wr hmem hpre hsz ho (ht.on hb) (Nat.le_refl _) au cu HU3.out hu5 (hu4.below hb (Nat.le_refl _))).mono ?_
      rintro r w2 ⟨v2, rfl, ho2, hb2⟩
      go_wp2
      go_roundw
      case rel => exact ⟨k + 1, by omega, by go_num, by rw [HST2.out]; exact ho2, hb.trans hb2⟩
      case measure => simp [intOf]; omega
    · obtain rfl : len = k := by omega
      go_wp2
      go_ret
      refine ⟨_, rfl, ?_, hb⟩
      rw [List.take_of_length_le (by rw [HL.out]; exact Nat.le_refl _)] at ho
      exact ho
end Go.Proofs.Qxb6608909aDoor
