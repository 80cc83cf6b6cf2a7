import Derived.Test.Qxb6608688aSl
import Derived.Lib.SlBytesConst
import Derived.Lib.Strings
import Derived.Deep.RegionWith
namespace Go.Proofs.Qxb6608688a
open Go.RowKit
set_option linter.unusedSimpArgs false
set_option linter.unusedVariables false

theorem rd_two' (w : World) (p q : Int) : Sl (w.alloc (.cells #[.int .u8 p, .int .u8 q] 5)) (.slice (some ⟨w.heap.size, 0, none⟩) 2 2) [p, q] := by
  refine ⟨some ⟨w.heap.size, 0, none⟩, 2, rfl, ?_, fun e => by cases e⟩
  exact (rd_two w p q).up (by simp)

theorem sl_four (w : World) (p q r s : Int) (fr : Nat × Nat) : Sl (w.alloc (.cells #[.int .u8 p, .int .u8 q, .int .u8 r, .int .u8 s] 5 fr)) (.slice (some ⟨w.heap.size, 0, none⟩) 4 4) [p, q, r, s] := by
  refine ⟨some ⟨w.heap.size, 0, none⟩, 4, rfl, .inr ⟨w.heap.size, 0, rfl, by simp, fun j hj => ?_⟩, fun e => by cases e⟩
  rw [Nat.zero_add, cell_of_row _ w.heap.size j _ 5 fr (heap_alloc_new w _)]
  match j, hj with
  | 0, _ => rfl
  | 1, _ => rfl
  | 2, _ => rfl
  | 3, _ => rfl

theorem sl_bytes (w : World) (s : ByteArray) (cap : Nat) (fr : Nat × Nat) : Sl (w.drew.alloc (.cells (bytesRow s cap) 5 fr)) (.slice (some ⟨w.heap.size, 0, none⟩) s.size cap) (sb s) := by
  refine ⟨some ⟨w.heap.size, 0, none⟩, cap, by rw [sb_length], .inr ⟨w.heap.size, 0, rfl, by simp, fun j hj => ?_⟩, fun e => by cases e⟩
  rw [sb_length] at hj
  have hj' : j < s.data.size := hj
  rw [Nat.zero_add, cell_of_row _ w.heap.size j _ 5 fr (heap_alloc_new w.drew _), bytesRow_at s cap j hj']
  have e : s.data[j]? = some s.data[j] := Array.getElem?_eq_getElem hj'
  simp [sb, e]

/-- '[]byte(s)' at the operation. -/
theorem wpList_bytes {P : Program} (w : World) {ops : Array Oper} {rest : List Oper} {o : Oper} {a : Act} {Q : Exit → Act → World → Prop} (hgd : o.guard = none) (x : Operand) (src dst : TypeId) (ho : o.op = Op.convert src dst x)
    (hs : P.underlying src = some .string) (hd : P.underlying dst = some (.slice 5)) (he : P.underlying 5 = some (.int .u8)) (s : ByteArray) (hx : a.eval x = .string s)
    (h : ∀ v' w', Sl w' v' (sb s) → Below w.heap.size w w' → wpList P ops Q rest (a.put o.dst v') w') : wpList P ops Q (o :: rest) a w := by
  refine wpList_plain hgd fun K hK => ?_
  have hrun := run_bytes_of_string (P := P) w src dst 5 s hs hd he
  unfold Oper.wp
  simp [execOp, ho, hx, hrun, Result.andThen]
  exact hK _ _ (h _ _ (sl_bytes w s _ _) ((Below.drew (Below.refl _ _)).alloc (Nat.le_refl _) _))

theorem sb_take (s : ByteArray) (n : Nat) : sb (s.extract 0 n) = (sb s).take n := by
  unfold sb; rw [Lib.extract_data, List.drop_zero, Nat.sub_zero, List.map_take]
theorem sb_drop (s : ByteArray) (n : Nat) : sb (s.extract n s.size) = (sb s).drop n := by
  unfold sb; rw [Lib.extract_data, List.take_of_length_le, List.map_drop]
  rw [List.length_drop, ← Lib.size_eq]; omega
theorem line_cut (d l : Int) (name : ByteArray) (n : Nat) : line d l (name.extract 0 n) ++ sb (name.extract n name.size) = line d l name := by
  unfold line
  rw [sb_take, sb_drop, List.append_assoc, List.take_append_drop]
theorem line_zero (l : Int) (name : ByteArray) : line 0 l name = [l, 32] ++ sb name := rfl
theorem line_neg (d l : Int) (name : ByteArray) (h : d < 0) : line (d + 1) l name = line d l name := by
  unfold line
  rw [show (4 * (d + 1)).toNat = 0 from by omega, show (4 * d).toNat = 0 from by omega]
theorem line_step (d l : Int) (name : ByteArray) (h : 0 ≤ d) : line (d + 1) l name = [32, 32, 32, 32] ++ line d l name := by
  unfold line
  rw [show (4 * (d + 1)).toNat = 4 + (4 * d).toNat from by omega, ← List.replicate_append_replicate, List.append_assoc, List.append_assoc, List.append_assoc]
  rfl

theorem owns_cap {w : World} {base : Nat} {v : Value} {zs : List Int} (h : Owns w base v zs) : ∃ a c, v = .slice a zs.length c ∧ zs.length ≤ c := by
  rcases h.2 with ⟨h1, h2⟩ | ⟨g, cap, cur, rfl, hb, hg, hn, hm, hc, ht⟩
  · exact ⟨none, 0, by rw [h1, h2], by omega⟩
  · exact ⟨_, cap, rfl, hn⟩

theorem zhead_cap (base : Nat) (d l : Int) (name : ByteArray) (v : Value) (zs : List Int) (w : World) (B : Nat) (d0 : -65536 ≤ d) (d1 : d ≤ 65536) (hl : zs.length ≤ 2097152) (hnm : name.size ≤ 1048576) (hB : B ≤ base) (hbs : base ≤ w.heap.size) (ho : Owns w base v zs) :
    Calls Try.prog 7 #[v, .int .i64 d, .int .u8 l, .string name] w fun e w' => (∃ v', e = .returned v' ∧ Sl w' v' (zs ++ line d l name) ∧ Hid (∃ a c, v' = .slice a (zs ++ line d l name).length c ∧ (zs ++ line d l name).length ≤ c)) ∧ Below B w w' := by
  refine (zhead_any base d l name v zs w B d0 d1 hl hnm hB hbs ho).mono ?_
  rintro e w' ⟨⟨v', rfl, ho⟩, hb⟩
  have e1 : zs ++ List.replicate (4 * d).toNat 32 ++ [l, 32] ++ sb name = zs ++ line d l name := by
    unfold line; simp only [List.append_assoc]
  rw [e1] at ho
  exact ⟨⟨v', rfl, ho.sl, owns_cap ho⟩, hb⟩

set_option maxHeartbeats 4000000 in
theorem law4_main (a : Option Addr) (len cap : Nat) (zs : List Int) (d l : Int) (name : ByteArray) (n : Nat) (w : World) (hz : zs.length = len) (hl : len + name.size ≤ 1048576) (d0 : -65536 ≤ d) (d1 : d < 65536) (hn : n ≤ name.size) (hs : Sl w (.slice a len cap) zs) :
    Calls Try.prog 4 #[.slice a len cap, .int .i64 d, .int .u8 l, .string name, .int .i64 n] w fun e w' => e = .returned (.bool true) ∧ Below w.heap.size w w' := by
  have kc := fun (w : World) (C : Array Value) (n c : Nat) => Lib.run_convert_bytes_const (P := Try.prog) w 22 5 C n c Try.underlying22 Try.underlying5
  have HL : Hid (zs.length = len) := hz
  have HLL : ∀ d, Hid ((line d l name).length = (4 * d).toNat + 2 + name.size) := fun d => line_length d l name
  clear hz
  go_enter Try.func4, Try.ntmps4
  go_wp2_with fail
  refine (bytes10_yes a len cap d l n name w hl).mono ?_
  rintro e w0 ⟨rfl, hw0⟩
  rw [hw0]
  clear hw0 w0
  go_wp2_with fail
  refine (clone_sl _ zs w hs (by rw [HL.out]; omega)).mono ?_
  rintro e w1 ⟨buf, rfl, ho1, hb1⟩
  have sb1 := ho1.sl
  have LB : Hid (zs.length ≤ 1048576) := by have := HL.out; unfold Hid; omega
  clear hs ho1
  go_wp2_with fail
  refine (clone_sl buf zs w1 sb1 (by have := LB.out; omega)).mono ?_
  rintro e w2 ⟨c2, rfl, ho2, hb2⟩
  go_wp2_with fail
  refine (zhead_cap w1.heap.size d l name c2 zs w2 w1.heap.size d0 (by omega) (by have := LB.out; omega) (by omega) (Nat.le_refl _) hb2.size ho2).mono ?_
  rintro e w3 ⟨⟨whole, rfl, sw3, WC⟩, hb3⟩
  have hb13 := hb2.trans hb3
  have sb3 := sb1.below hb13
  have B3 := hb1.trans (hb13.mono hb1.size)
  clear sb1 ho2 hb2 hb3 hb13 hb1
  have sb3d : Sl w3.drew buf zs := sb3.below (Below.drew (Below.refl _ _))
  have hcut : (n : Int) ≤ (name.size : Int) := by omega
  have hcut0 : (0 : Int) ≤ (n : Int) := by omega
  go_wp2_with fail
  go_region_with (first
    | (go_at_call 6; refine (clone_sl buf zs w3.drew sb3d (by have := LB.out; omega)).mono ?_; rintro e w4 ⟨c4, rfl, ho4, hb4⟩)
    | (go_at_call 7; refine (zhead_sl w3.drew.heap.size d l _ c4 zs w4 w3.drew.heap.size d0 (by omega) (by have := LB.out; omega) (by simp; omega) (Nat.le_refl _) hb4.size ho4).mono ?_; rintro e w5 ⟨⟨part, rfl, sp5⟩, hb5⟩))
  have hb35 : Below w3.heap.size w3 w5 := (Below.drew (Below.refl w3.heap.size w3)).trans (hb4.trans hb5)
  have sb5 := sb3.below hb35
  have sw5 := sw3.below hb35
  have B5 := B3.trans (hb35.mono B3.size)
  clear sb3 sw3 sb3d B3 hb35 hb4 hb5 ho4
  go_wp2_with fail
  refine (clone_sl buf zs w5 sb5 (by have := LB.out; omega)).mono ?_
  rintro e w6 ⟨c6, rfl, ho6, hb6⟩
  go_wp2_with fail
  refine (zhead_sl w5.heap.size (d + 1) l name c6 zs w6 w5.heap.size (by omega) (by omega) (by have := LB.out; omega) (by omega) (Nat.le_refl _) hb6.size ho6).mono ?_
  rintro e w7 ⟨⟨deeper, rfl, sd7⟩, hb7⟩
  have hb57 := hb6.trans hb7
  have sb7 := sb5.below hb57
  have sw7 := sw5.below hb57
  have sp7 := sp5.below hb57
  have B7 := B5.trans (hb57.mono B5.size)
  clear sb5 sw5 sp5 B5 hb57 hb6 hb7 ho6
  go_wp2_with fail
  refine (clone_sl buf zs w7 sb7 (by have := LB.out; omega)).mono ?_
  rintro e w8 ⟨c8, rfl, ho8, hb8⟩
  go_wp2_with fail
  refine (zhead_sl w7.heap.size 0 l name c8 zs w8 w7.heap.size (by omega) (by omega) (by have := LB.out; omega) (by omega) (Nat.le_refl _) hb8.size ho8).mono ?_
  rintro e w9 ⟨⟨top, rfl, st9⟩, hb9⟩
  have hb79 := hb8.trans hb9
  have sb9 := sb7.below hb79
  have sw9 := sw7.below hb79
  have sp9 := sp7.below hb79
  have sd9 := sd7.below hb79
  have B9 := B7.trans (hb79.mono B7.size)
  clear sb7 sw7 sp7 sd7 B7 hb79 hb8 hb9 ho8
  have hba : Below w9.heap.size w9 (w9.alloc (.cells #[.int .u8 l, .int .u8 32] 5)) := (Below.refl _ _).alloc (Nat.le_refl _) _
  go_wp2_with fail
  refine (concat_sl buf _ zs [l, 32] _ (sb9.below hba) (rd_two' w9 l 32) (by have := LB.out; omega) (by simp)).mono ?_
  rintro e w10 ⟨t10, rfl, sc10, hb10⟩
  have hb910 := hba.trans (hb10.mono (by simp))
  have sb10 := sb9.below hb910
  have sw10 := sw9.below hb910
  have sp10 := sp9.below hb910
  have sd10 := sd9.below hb910
  have st10 := st9.below hb910
  have B10 := B9.trans (hb910.mono B9.size)
  clear sb9 sw9 sp9 sd9 st9 B9 hb910 hba hb10
  go_wp2_with (refine wpList_bytes _ rfl (.tmp 80) 9 22 rfl Try.underlying9 Try.underlying22 Try.underlying5 name rfl ?_; intro v11 w11 sv11 hb11)
  refine (concat_sl t10 v11 (zs ++ [l, 32]) (sb name) w11 (sc10.below hb11) sv11 (by have := LB.out; simp; omega) (by rw [sb_length]; omega)).mono ?_
  rintro e w12 ⟨t12, rfl, sc12, hb12⟩
  have hb1012 := hb11.trans (hb12.mono hb11.size)
  have sb12 := sb10.below hb1012
  have sw12 := sw10.below hb1012
  have sp12 := sp10.below hb1012
  have sd12 := sd10.below hb1012
  have st12 := st10.below hb1012
  have B12 := B10.trans (hb1012.mono B10.size)
  clear sb10 sw10 sp10 sd10 st10 B10 hb1012 hb11 hb12 sc10 sv11
  rw [List.append_assoc, ← line_zero] at sc12
  go_wp2_with fail
  refine (eq_sl top t12 _ _ w12 st12 sc12 (by rw [List.length_append, (HLL 0).out]; have := LB.out; omega) (by rw [List.length_append, (HLL 0).out]; have := LB.out; omega)).mono ?_
  rw [decide_eq_true rfl]
  rintro e w13 ⟨rfl, hb13⟩
  have sb13 := sb12.below hb13
  have sw13 := sw12.below hb13
  have sp13 := sp12.below hb13
  have sd13 := sd12.below hb13
  have B13 := B12.trans (hb13.mono B12.size)
  clear sb12 sw12 sp12 sd12 st12 B12 hb13 sc12
  go_wp2_with (refine wpList_bytes _ rfl (.tmp 91) 9 22 rfl Try.underlying9 Try.underlying22 Try.underlying5 _ rfl ?_; intro v14 w14 sv14 hb14)
  have LX : Hid ((zs ++ line d l (name.extract 0 n)).length ≤ 4194304) := by
    unfold Hid; rw [List.length_append, line_length]; have := LB.out; simp; omega
  have LW : ∀ d, d ≤ 65536 → Hid ((zs ++ line d l name).length ≤ 4194304) := by
    intro d hd; unfold Hid; rw [List.length_append, (HLL d).out]; have := LB.out; omega
  refine (concat_sl part v14 _ _ w14 (sp13.below hb14) sv14 LX.out (by rw [sb_length]; simp; omega)).mono ?_
  rintro e w15 ⟨t15, rfl, sc15, hb15⟩
  rw [List.append_assoc, line_cut] at sc15
  have hb1315 := hb14.trans (hb15.mono hb14.size)
  have sb15 := sb13.below hb1315
  have sw15 := sw13.below hb1315
  have sd15 := sd13.below hb1315
  have B15 := B13.trans (hb1315.mono B13.size)
  clear sb13 sw13 sp13 sd13 B13 hb1315 hb14 hb15 sv14
  go_wp2_with fail
  refine (eq_sl whole t15 _ _ w15 sw15 sc15 (LW d (by omega)).out (LW d (by omega)).out).mono ?_
  rw [decide_eq_true rfl]
  rintro e w16 ⟨rfl, hb16⟩
  have sb16 := sb15.below hb16
  have sw16 := sw15.below hb16
  have sd16 := sd15.below hb16
  have B16 := B15.trans (hb16.mono B15.size)
  clear sb15 sw15 sd15 B15 hb16 sc15
  obtain ⟨aw, cw, hwv, hcw⟩ := WC.out
  obtain ⟨ab, cb, hbv, hrb, hnb⟩ := id sb16
  obtain ⟨aw', cw', hwv', hrw, hnw⟩ := id sw16
  rw [hwv] at hwv'
  injection hwv' with e1 e2 e3
  subst e1
  subst e3
  have hLw : (zs ++ line d l name).length = zs.length + ((4 * d).toNat + 2 + name.size) := by rw [List.length_append, (HLL d).out]
  obtain ⟨Lw, hLw'⟩ : ∃ Lw, (zs ++ line d l name).length = Lw := ⟨_, rfl⟩
  obtain ⟨L0, hL0⟩ : ∃ L0, zs.length = L0 := ⟨_, rfl⟩
  have hq : L0 + 2 ≤ Lw := by rw [← hL0, ← hLw', hLw]; omega
  have hq2 : Lw ≤ 4194304 := by rw [← hLw']; exact (LW d (by omega)).out
  rw [hLw'] at hwv hcw
  rw [hL0] at hbv
  have HLw : Hid ((zs ++ line d l name).length = Lw) := hLw'
  have HL0 : Hid (zs.length = L0) := hL0
  clear hLw hLw' hL0 e2 WC
  subst hwv
  subst hbv
  obtain ⟨bw, ow, hbw, hltw, hcw2⟩ : ∃ b o, aw = some ⟨b, o, none⟩ ∧ b < w16.heap.size ∧ ∀ j, j < (zs ++ line d l name).length → w16.cell? ⟨b, o + j, none⟩ = some (.int .u8 ((zs ++ line d l name).getD j 0)) := by
    rcases hrw with h | h
    · have := HLw.out; rw [h] at this; simp at this; omega
    · exact h
  subst hbw
  by_cases hd : d < 0
  · go_wp2_with fail
    refine (eq_sl deeper _ _ _ w16 sd16 sw16 (LW (d + 1) (by omega)).out (LW d (by omega)).out).mono ?_
    rw [line_neg d l name hd, decide_eq_true rfl]
    rintro e w17 ⟨rfl, hb17⟩
    go_wp2_with fail
    go_ret
    exact ⟨rfl, B16.trans (hb17.mono B16.size)⟩
  · have s1 : Sl w16 (.slice (some ⟨bw, ow, none⟩) L0 cw) zs := by
      refine ⟨some ⟨bw, ow, none⟩, cw, by rw [HL0.out], .inr ⟨bw, ow, rfl, hltw, fun j hj => ?_⟩, fun e => by cases e⟩
      rw [hcw2 j (by rw [List.length_append]; omega)]
      simp [List.getElem?_append, hj]
    have s2 : Sl w16 (.slice (some ⟨bw, ow + L0, none⟩) (Lw - L0) (cw - L0)) (line d l name) := by
      refine ⟨some ⟨bw, ow + L0, none⟩, cw - L0, ?_, .inr ⟨bw, ow + L0, rfl, hltw, fun j hj => ?_⟩, fun e => by cases e⟩
      · have := HLw.out; rw [List.length_append, HL0.out] at this
        rw [show (line d l name).length = Lw - L0 from by omega]
      · have h0 := HL0.out
        rw [Nat.add_assoc, hcw2 (L0 + j) (by rw [List.length_append]; omega), ← h0]
        rw [List.getD_eq_getElem?_getD, List.getElem?_append_right (by omega), Nat.add_sub_cancel_left, List.getD_eq_getElem?_getD]
    have h4 : Below w16.heap.size w16 (w16.alloc (.cells #[.int .u8 32, .int .u8 32, .int .u8 32, .int .u8 32] 5 (4, 5))) := (Below.refl _ _).alloc (Nat.le_refl _) _
    have j1 : (0 : Int) ≤ (L0 : Int) := by omega
    have j2 : (L0 : Int) ≤ (cw : Int) := by omega
    have j3 : (L0 : Int) ≤ (Lw : Int) := by omega
    clear hrb hrw
    go_wp2_with fail
    refine (concat_sl _ _ zs [32, 32, 32, 32] _ (s1.below h4) (sl_four w16 32 32 32 32 (4, 5)) (by have := LB.out; omega) (by simp)).mono ?_
    rintro e w17 ⟨t17, rfl, sc17, hb17⟩
    have h17 := h4.trans (hb17.mono (by simp))
    have s3 := s2.below h17
    have sd17 := sd16.below h17
    have B17 := B16.trans (h17.mono B16.size)
    clear s1 s2 sd16 B16 h17 hb17 h4 sb16 sw16
    go_wp2_with fail
    refine (concat_sl t17 _ (zs ++ [32, 32, 32, 32]) (line d l name) w17 sc17 s3 (by have := LB.out; simp; omega) (by rw [(HLL d).out]; omega)).mono ?_
    rintro e w18 ⟨t18, rfl, sc18, hb18⟩
    rw [List.append_assoc, ← line_step d l name (by omega)] at sc18
    have sd18 := sd17.below hb18
    have B18 := B17.trans (hb18.mono B17.size)
    clear s3 sd17 B17 hb18 sc17
    go_wp2_with fail
    refine (eq_sl deeper t18 _ _ w18 sd18 sc18 (LW (d + 1) (by omega)).out (LW (d + 1) (by omega)).out).mono ?_
    rw [decide_eq_true rfl]
    rintro e w19 ⟨rfl, hb19⟩
    go_wp2_with fail
    go_ret
    exact ⟨rfl, B18.trans (hb19.mono B18.size)⟩
end Go.Proofs.Qxb6608688a
