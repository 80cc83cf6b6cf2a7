import Derived.Test.Qxb6609012aFmtNum
import Derived.Test.Qxb6609012aFmtZz
import Derived.Test.Qxb6609012aFmtConv
namespace Go.Proofs.Qxb6609012aFmt
open Go.RowKit
set_option linter.unusedSimpArgs false
set_option linter.unusedVariables false

theorem dec_two : ∀ n : Fin 90, (Lib.decDigits (n.val + 10)).length = 2 := by decide +kernel
theorem dig_x (N : Nat) (h : N < 100) : isD (48 + N / 10) = true := by unfold isD; rw [decide_eq_true_eq]; omega
theorem dig_y (N : Nat) (h : N < 100) : isD (48 + N % 10) = true := by unfold isD; rw [decide_eq_true_eq]; omega

/-- What number does on the law's text, in the world in which ZZNumber calls it. -/
theorem num_here (p t wh : ByteArray) (N H d2 : Nat) (lo : Int) (w : World) (hN : N < 100) (h10 : 10 ≤ H) (h99 : H ≤ 99) (hp : p.size ≤ 1048576) (ht : t.size ≤ 1048576) (hlo0 : -9223372036854775808 ≤ lo) (hlo1 : lo ≤ 9223372036854775807)
    (hd : ∀ h : 0 < t.size, (t[0]'h).toNat = d2) (bad : Prop) (HB : Hid (bad ↔ ((0 < t.size ∧ isD d2 = true) ∨ (N : Int) < lo ∨ (H : Int) < (N : Int)))) (S : ByteArray) (hS : text p t (48 + N / 10) (48 + N % 10) = S) :
    Hid (Calls Tryf.prog 10 #[.pointer (some ⟨w.heap.size, 0, none⟩), .string wh, .int .i64 lo, .int .i64 H] (w.alloc (.cells #[.string S, .int .i64 p.size] 31)) fun e w' => NumOut e (w.alloc (.cells #[.string S, .int .i64 p.size] 31)) w' w.heap.size p.size N bad) := by
  subst hS
  have hsz := text_size p t (48 + N / 10) (48 + N % 10)
  refine number_any w.heap.size p.size _ H N (48 + N / 10) (48 + N % 10) lo _ wh ⟨(Lib.decDigits H).toArray⟩ _ _ (par_new w _ _) hsz (by omega) (by omega) (dig_x N hN) (dig_y N hN)
    (fun h => text_0 p t _ _ (by omega) h) (fun h => text_1 p t _ _ (by omega) h) d2 (fun h => ?_) h10 h99 hlo0 hlo1 bad ?_ ?_ ?_ rfl ?_
  · have h' : 0 < t.size := by rw [hsz] at h; omega
    rw [text_2 p t _ _ h h']
    exact hd h'
  · refine Iff.trans HB.out ?_
    constructor
    · rintro (⟨h1, h2⟩ | h)
      · exact .inl ⟨by omega, h2⟩
      · exact .inr h
    · rintro (⟨h1, h2⟩ | h)
      · exact .inl ⟨by omega, h2⟩
      · exact .inr h
  · have h := dec_two ⟨H - 10, by omega⟩
    have e : H - 10 + 10 = H := by omega
    simp only [e] at h
    show (Lib.decDigits H).toArray.size = 2
    rw [List.size_toArray]
    exact h
  · exact fun W => Tryf.strconv_Itoa_small H (by omega) W
  · intro W
    have hc := text_cut p t (48 + N / 10) (48 + N % 10)
    have hl : ((text p t (48 + N / 10) (48 + N % 10)).extract p.size (p.size + 2)).size = 2 := by
      rw [← len_list, hc]; rfl
    refine (Tryf.strconv_Atoi _ (N : Int) (by omega) (by rw [hc]; exact atoi_two ⟨N, hN⟩) W).mono ?_
    rintro e w' ⟨rfl, x, rfl⟩
    exact ⟨rfl, bytes_below W x⟩
set_option maxRecDepth 20000 in
set_option maxHeartbeats 4000000 in
theorem law (p t wh : ByteArray) (n lo hi : Int) (w : World) (mp : p.size ≤ maxLen) (mt : t.size ≤ maxLen) (mw : wh.size ≤ maxLen) (lo0 : -9223372036854775808 ≤ lo) (lo1 : lo ≤ 9223372036854775807) :
    Calls Tryf.prog 4 #[.string p, .int .i64 n, .string t, .string wh, .int .i64 lo, .int .i64 hi] w fun e w' => e = .returned (.bool true) ∧ Below w.heap.size w w' := by
  obtain ⟨a, ha⟩ : ∃ a, p.size = a := ⟨_, rfl⟩
  obtain ⟨b, hb⟩ : ∃ b, t.size = b := ⟨_, rfl⟩
  obtain ⟨c, hc⟩ : ∃ c, wh.size = c := ⟨_, rfl⟩
  have HA := Hid.intro' ha
  have HBB := Hid.intro' hb
  have m0 : a ≤ 9223372036854775807 := by unfold maxLen at mp; omega
  have m1 : b ≤ 9223372036854775807 := by unfold maxLen at mt; omega
  have m2 : c ≤ 9223372036854775807 := by unfold maxLen at mw; omega
  clear mp mt mw
  go_enter Tryf.func4, Tryf.ntmps4
  go_wp2_with fail
  refine (gate8 p t wh a b c ha hb hc n lo hi w m0 m1 m2).mono ?_
  rintro e w' ⟨g, rfl, hw, hg⟩
  subst hw
  cases g with
  | false =>
    clear hg
    go_wp2
    go_ret
    exact ⟨rfl, Below.refl _ _⟩
  | true =>
    have hsum := hg rfl
    clear hg
    by_cases n0 : n < 0
    · go_wp2
      go_ret
      exact ⟨rfl, Below.refl _ _⟩
    by_cases n1 : 99 < n
    · go_wp2
      go_ret
      exact ⟨rfl, Below.refl _ _⟩
    by_cases n2 : hi < 10
    · go_wp2
      go_ret
      exact ⟨rfl, Below.refl _ _⟩
    by_cases n3 : 99 < hi
    · go_wp2
      go_ret
      exact ⟨rfl, Below.refl _ _⟩
    obtain ⟨N, rfl⟩ : ∃ N : Nat, n = (N : Int) := ⟨n.toNat, by omega⟩
    obtain ⟨H, rfl⟩ : ∃ H : Nat, hi = (H : Int) := ⟨hi.toNat, by omega⟩
    have hcv1 : ∀ W : World, (convert 9 27 (.string p)).run Tryf.prog W = .ok (.slice (some ⟨W.heap.size, 0, none⟩) a (grownCap W a 0 5)) (Lib.bytesWorld W 5 p) := by
      intro W
      have h := Lib.run_convert_string_bytes (P := Tryf.prog) W 9 27 5 p Tryf.underlying9 Tryf.underlying27 Tryf.underlying5
      rw [HA.out] at h
      exact h
    have SP := bytes_spare w' p
    rw [HA.out] at SP
    have HSP := Hid.intro' SP
    clear SP
    go_wp2_with fail
    refine (two_any w'.heap.size _ (nums p) a N _ (by rw [nums_length]; exact HA.out) (bytes_at w' p) (by rw [Lib.bytesWorld_size]; omega) HSP.out (by omega) (by omega)).mono ?_
    rintro e w2 ⟨b', c', rfl, hat, hb2, hlt2⟩
    have hbw2 : Below w'.heap.size w' w2 := (bytes_below w' p).trans hb2
    obtain ⟨U, hU⟩ : ∃ U, strOfNums (nums p ++ [((48 + N / 10 : Nat) : Int), ((48 + N % 10 : Nat) : Int)]) = U := ⟨_, rfl⟩
    obtain ⟨S, hS⟩ : ∃ S, U ++ t = S := ⟨_, rfl⟩
    have HS : Hid (text p t (48 + N / 10) (48 + N % 10) = S) := by unfold Hid text; rw [hU]; exact hS
    have hcv2 : (convert 27 9 (.slice (some ⟨b', 0, none⟩) (a + 2) c')).run Tryf.prog w2 = .ok (.string U) w2 := by
      rw [← hU]
      refine run_convert_bytes_arg (P := Tryf.prog) w2 27 5 Tryf.underlying27 Tryf.underlying5 b' 0 (a + 2) c' _ (by rw [List.length_append, nums_length, HA.out]; rfl) (fun i hi => ?_) 9 Tryf.underlying9
      rw [Nat.zero_add]
      exact hat i (by rw [List.length_append, nums_length, HA.out]; exact hi)
    have hUs : U.size = a + 2 := by rw [← hU, strOfNums_size, List.length_append, nums_length, HA.out]; rfl
    have hcat : a + 2 + b ≤ maxLen := by unfold maxLen; omega
    have hcat' : a + 2 + b ≤ 9223372036854775807 := by omega
    clear hat hb2 hU hcv1 HSP
    by_cases hb0 : 0 < b
    · obtain ⟨d2, hd⟩ : ∃ d2, ∀ h : 0 < t.size, (t[0]'h).toNat = d2 := ⟨(t[0]'(by rw [HBB.out]; exact hb0)).toNat, fun _ => rfl⟩
      have hb0' : (0 : Int) < (b : Int) := by omega
      obtain ⟨bad, HB⟩ : ∃ bad : Prop, Hid (bad ↔ ((0 < t.size ∧ isD d2 = true) ∨ (N : Int) < lo ∨ (H : Int) < (N : Int))) := ⟨_, Iff.rfl⟩
      have HN := num_here p t wh N H d2 lo w2 (by omega) (by omega) (by omega) (by rw [HA.out]; omega) (by rw [HBB.out]; omega) lo0 lo1 hd bad HB S HS.out
      rw [HA.out] at HN
      by_cases e1 : 48 ≤ d2
      · have e1' : (48 : Int) ≤ (d2 : Int) := by omega
        by_cases e2 : d2 ≤ 57
        · have e2' : (d2 : Int) ≤ 57 := by omega
          have HBAD := Hid.intro' (HB.out.2 (.inl ⟨by rw [HBB.out]; exact hb0, by unfold isD; rw [decide_eq_true_eq]; exact ⟨e1, e2⟩⟩))
          clear HB
          go_wp2_with fail
          refine (zz_bad S wh a H N lo bad HBAD.out w2 HN).mono ?_
          rintro e w3 ⟨rfl, hb3⟩
          go_wp2
          go_ret
          exact ⟨rfl, hbw2.trans (hb3.mono hbw2.size)⟩
        · have e2' : ¬ (d2 : Int) ≤ 57 := by omega
          by_cases l1 : (N : Int) < lo
          · have HBAD := Hid.intro' (HB.out.2 (.inr (.inl l1)))
            clear HB
            go_wp2_with fail
            refine (zz_bad S wh a H N lo bad HBAD.out w2 HN).mono ?_
            rintro e w3 ⟨rfl, hb3⟩
            go_wp2
            go_ret
            exact ⟨rfl, hbw2.trans (hb3.mono hbw2.size)⟩
          · by_cases l2 : (H : Int) < (N : Int)
            · have HBAD := Hid.intro' (HB.out.2 (.inr (.inr l2)))
              clear HB
              go_wp2_with fail
              refine (zz_bad S wh a H N lo bad HBAD.out w2 HN).mono ?_
              rintro e w3 ⟨rfl, hb3⟩
              go_wp2
              go_ret
              exact ⟨rfl, hbw2.trans (hb3.mono hbw2.size)⟩
            · have HOK : Hid (¬ bad) := fun h => (HB.out.1 h).elim (fun h => by have := h.2; unfold isD at this; rw [decide_eq_true_eq] at this; omega) (fun h => h.elim (fun h => l1 h) (fun h => l2 h))
              clear HB
              go_wp2_with fail
              refine (zz_ok S wh a H N lo bad HOK.out w2 HN).mono ?_
              rintro e w3 ⟨rfl, hb3⟩
              go_wp2
              go_ret
              exact ⟨rfl, hbw2.trans (hb3.mono hbw2.size)⟩
      · have e1' : ¬ (48 : Int) ≤ (d2 : Int) := by omega
        by_cases l1 : (N : Int) < lo
        · have HBAD := Hid.intro' (HB.out.2 (.inr (.inl l1)))
          clear HB
          go_wp2_with fail
          refine (zz_bad S wh a H N lo bad HBAD.out w2 HN).mono ?_
          rintro e w3 ⟨rfl, hb3⟩
          go_wp2
          go_ret
          exact ⟨rfl, hbw2.trans (hb3.mono hbw2.size)⟩
        · by_cases l2 : (H : Int) < (N : Int)
          · have HBAD := Hid.intro' (HB.out.2 (.inr (.inr l2)))
            clear HB
            go_wp2_with fail
            refine (zz_bad S wh a H N lo bad HBAD.out w2 HN).mono ?_
            rintro e w3 ⟨rfl, hb3⟩
            go_wp2
            go_ret
            exact ⟨rfl, hbw2.trans (hb3.mono hbw2.size)⟩
          · have HOK : Hid (¬ bad) := fun h => (HB.out.1 h).elim (fun h => by have := h.2; unfold isD at this; rw [decide_eq_true_eq] at this; omega) (fun h => h.elim (fun h => l1 h) (fun h => l2 h))
            clear HB
            go_wp2_with fail
            refine (zz_ok S wh a H N lo bad HOK.out w2 HN).mono ?_
            rintro e w3 ⟨rfl, hb3⟩
            go_wp2
            go_ret
            exact ⟨rfl, hbw2.trans (hb3.mono hbw2.size)⟩
    · have hb0' : ¬ (0 : Int) < (b : Int) := by omega
      obtain ⟨bad, HB⟩ : ∃ bad : Prop, Hid (bad ↔ ((0 < t.size ∧ isD 0 = true) ∨ (N : Int) < lo ∨ (H : Int) < (N : Int))) := ⟨_, Iff.rfl⟩
      have HN := num_here p t wh N H 0 lo w2 (by omega) (by omega) (by omega) (by rw [HA.out]; omega) (by rw [HBB.out]; omega) lo0 lo1 (fun h => by rw [HBB.out] at h; omega) bad HB S HS.out
      rw [HA.out] at HN
      by_cases l1 : (N : Int) < lo
      · have HBAD := Hid.intro' (HB.out.2 (.inr (.inl l1)))
        clear HB
        go_wp2_with fail
        refine (zz_bad S wh a H N lo bad HBAD.out w2 HN).mono ?_
        rintro e w3 ⟨rfl, hb3⟩
        go_wp2
        go_ret
        exact ⟨rfl, hbw2.trans (hb3.mono hbw2.size)⟩
      · by_cases l2 : (H : Int) < (N : Int)
        · have HBAD := Hid.intro' (HB.out.2 (.inr (.inr l2)))
          clear HB
          go_wp2_with fail
          refine (zz_bad S wh a H N lo bad HBAD.out w2 HN).mono ?_
          rintro e w3 ⟨rfl, hb3⟩
          go_wp2
          go_ret
          exact ⟨rfl, hbw2.trans (hb3.mono hbw2.size)⟩
        · have HOK : Hid (¬ bad) := fun h => (HB.out.1 h).elim (fun h => by have := h.1; rw [HBB.out] at this; omega) (fun h => h.elim (fun h => l1 h) (fun h => l2 h))
          clear HB
          go_wp2_with fail
          refine (zz_ok S wh a H N lo bad HOK.out w2 HN).mono ?_
          rintro e w3 ⟨rfl, hb3⟩
          go_wp2
          go_ret
          exact ⟨rfl, hbw2.trans (hb3.mono hbw2.size)⟩
end Go.Proofs.Qxb6609012aFmt
