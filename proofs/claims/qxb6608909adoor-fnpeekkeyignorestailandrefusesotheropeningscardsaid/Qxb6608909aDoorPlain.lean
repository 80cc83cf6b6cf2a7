import Derived.Test.Qxb6608909aDoorShelf
namespace Go.Proofs.Qxb6608909aDoor
set_option linter.unusedSimpArgs false
set_option linter.unusedVariables false

/-! ### The decimal text -/
theorem num_eq (n : Nat) : num n = (Lib.decDigits n).map fun b => (b.toNat : Int) := by
  unfold num Lib.itoa
  rw [if_neg (by omega), Int.toNat_natCast]
theorem num_small (n : Nat) (h : n < 10) : num n = [48 + (n : Int)] := by
  rw [num_eq, Lib.decDigits_one h]
  simp [Nat.mod_eq_of_lt (show 48 + n < 256 by omega)]
theorem num_big (n : Nat) (h : ¬ n < 10) : num n = num (n / 10) ++ [48 + ((n % 10 : Nat) : Int)] := by
  rw [num_eq, num_eq, Lib.decDigits, dif_neg h, List.map_append]
  congr 1
  simp [Nat.mod_eq_of_lt (show 48 + n % 10 < 256 by omega)]

def dg (c : Int) : Bool := decide (48 ≤ c) && decide (c ≤ 57)

theorem num_digit (n : Nat) : ∀ c ∈ num n, dg c = true := by
  induction n using Nat.strongRecOn with
  | _ n ih =>
    intro c hc
    by_cases h : n < 10
    · rw [num_small n h] at hc
      simp at hc; subst hc
      simp [dg]; omega
    · rw [num_big n h] at hc
      rcases List.mem_append.1 hc with h1 | h1
      · exact ih (n / 10) (by omega) c h1
      · simp at h1; subst h1
        simp [dg]; omega
theorem num_pos (n : Nat) : 1 ≤ (num n).length := by
  by_cases h : n < 10
  · rw [num_small n h]; simp
  · rw [num_big n h]; simp
theorem num_len (k : Nat) : ∀ n, n < 10 ^ (k + 1) → (num n).length ≤ k + 1 := by
  induction k with
  | zero => intro n h; rw [num_small n (by simpa using h)]; simp
  | succ k ih =>
    intro n h
    by_cases h1 : n < 10
    · rw [num_small n h1]; simp
    · rw [num_big n h1, List.length_append]
      have := ih (n / 10) (by rw [Nat.pow_succ] at h; omega)
      simp; omega
theorem num_len7 (n : Nat) (h : n ≤ 9999999) : (num n).length ≤ 7 := num_len 6 n (by omega)

def val (l : List Int) : Int := l.foldl (fun n c => n * 10 + (c - 48)) 0
theorem val_snoc (l : List Int) (c : Int) : val (l ++ [c]) = val l * 10 + (c - 48) := by simp [val]
theorem val_num (n : Nat) : val (num n) = n := by
  induction n using Nat.strongRecOn with
  | _ n ih =>
    by_cases h : n < 10
    · rw [num_small n h]; simp [val]; omega
    · rw [num_big n h, val_snoc, ih (n / 10) (by omega)]; omega
theorem num_lead (n : Nat) : 1 < (num n).length → (num n).getD 0 0 ≠ 48 := by
  induction n using Nat.strongRecOn with
  | _ n ih =>
    intro hl
    by_cases h : n < 10
    · rw [num_small n h] at hl; simp at hl
    · have hp := num_pos (n / 10)
      rw [num_big n h]
      have e : (num (n / 10) ++ [48 + ((n % 10 : Nat) : Int)]).getD 0 0 = (num (n / 10)).getD 0 0 := by
        rw [List.getD_eq_getElem?_getD, List.getElem?_append_left (by omega), List.getD_eq_getElem?_getD]
      rw [e]
      by_cases h2 : n / 10 < 10
      · rw [num_small _ h2]; simp; omega
      · exact ih (n / 10) (by omega) (by rw [num_big _ h2, List.length_append]; have := num_pos (n / 10 / 10); simp; omega)

/-! ### A line that opens an array or a bulk string -/
def cnt (D : List Int) : Nat := (D.takeWhile dg).length
def okLine (D : List Int) : Bool := decide (cnt D ≤ 18 ∧ D.getD (cnt D) 0 = 13 ∧ cnt D ≠ 0 ∧ cnt D + 1 < D.length ∧ D.getD (cnt D + 1) 0 = 10 ∧ ¬ (D.getD 0 0 = 48 ∧ 1 < cnt D))

theorem cnt_app (ds rest : List Int) (h : ∀ c ∈ ds, dg c = true) : cnt (ds ++ rest) = ds.length + cnt rest := by
  unfold cnt
  rw [List.takeWhile_append_of_pos h, List.length_append]
theorem cnt_nil : cnt [] = 0 := rfl
theorem cnt_13 (l : List Int) : cnt (13 :: l) = 0 := rfl

theorem getD_app_right (a b : List Int) (i : Nat) : (a ++ b).getD (a.length + i) 0 = b.getD i 0 := by
  rw [List.getD_eq_getElem?_getD, List.getElem?_append_right (by omega), Nat.add_sub_cancel_left, List.getD_eq_getElem?_getD]
theorem getD_app_right0 (a b : List Int) : (a ++ b).getD a.length 0 = b.getD 0 0 := getD_app_right a b 0
theorem getD_app_left (a b : List Int) (i : Nat) (h : i < a.length) : (a ++ b).getD i 0 = a.getD i 0 := by
  rw [List.getD_eq_getElem?_getD, List.getElem?_append_left h, List.getD_eq_getElem?_getD]

theorem line_full (n : Nat) (rest : List Int) (h : n ≤ 9999999) :
    cnt (num n ++ 13 :: 10 :: rest) = (num n).length ∧ okLine (num n ++ 13 :: 10 :: rest) = true ∧ val ((num n ++ 13 :: 10 :: rest).take (num n).length) = n := by
  have hc : cnt (num n ++ 13 :: 10 :: rest) = (num n).length := by rw [cnt_app _ _ (num_digit n), cnt_13, Nat.add_zero]
  have hl := num_len7 n h
  have hp := num_pos n
  refine ⟨hc, ?_, ?_⟩
  · unfold okLine
    rw [hc, decide_eq_true_iff]
    refine ⟨by omega, by rw [getD_app_right0]; rfl, by omega, by simp, by rw [getD_app_right]; rfl, ?_⟩
    rintro ⟨h1, h2⟩
    rw [getD_app_left _ _ _ (by omega)] at h1
    exact num_lead n h2 h1
  · rw [List.take_left]; exact val_num n

theorem dig_take (n j : Nat) : ∀ c ∈ (num n).take j, dg c = true := fun c hc => num_digit n c (List.mem_of_mem_take hc)

theorem line_cut (n j : Nat) (rest : List Int) (h : j < (num n).length + 2) : okLine ((num n ++ 13 :: 10 :: rest).take j) = false := by
  unfold okLine
  apply decide_eq_false
  rintro ⟨_, h2, h3, h4, _⟩
  by_cases hj : j ≤ (num n).length
  · rw [List.take_append_of_le_length hj] at h2 h4
    have e : cnt ((num n).take j) = ((num n).take j).length := by
      have := cnt_app ((num n).take j) [] (dig_take n j)
      rw [List.append_nil, cnt_nil, Nat.add_zero] at this
      exact this
    rw [e] at h4
    omega
  · obtain rfl : j = (num n).length + 1 := by omega
    have e : (num n ++ 13 :: 10 :: rest).take ((num n).length + 1) = num n ++ [13] := by
      rw [List.take_append, List.take_of_length_le (by omega)]; simp
    rw [e, cnt_app _ _ (num_digit n), cnt_13] at h4
    simp at h4

theorem line_lead (n : Nat) (rest : List Int) : okLine (48 :: (num n ++ 13 :: 10 :: rest)) = false := by
  unfold okLine
  apply decide_eq_false
  rintro ⟨_, _, _, _, _, h6⟩
  apply h6
  refine ⟨rfl, ?_⟩
  have e : cnt (48 :: (num n ++ 13 :: 10 :: rest)) = (48 :: num n).length + 0 := by
    have := cnt_app (48 :: num n) (13 :: 10 :: rest) (by
      intro c hc
      rcases List.mem_cons.1 hc with h | h
      · subst h; rfl
      · exact num_digit n c h)
    rw [cnt_13] at this
    exact this
  rw [e]
  have := num_pos n
  simp; omega

/-! ### PeekKey, plainly -/
def item (B : List Int) (p : Nat) : Option (Nat × Nat) :=
  if p < B.length ∧ B.getD p 0 = 36 ∧ okLine (B.drop (p + 1)) = true ∧ val ((B.drop (p + 1)).take (cnt (B.drop (p + 1)))) ≤ (B.length : Int) - ((p + 1 + cnt (B.drop (p + 1)) + 2 : Nat) : Int)
  then some (p + 1 + cnt (B.drop (p + 1)) + 2, (val ((B.drop (p + 1)).take (cnt (B.drop (p + 1))))).toNat) else none

def opens (B : List Int) : Bool := decide (B.length ≠ 0 ∧ B.getD 0 0 = 42 ∧ okLine (B.drop 1) = true ∧ 2 ≤ val ((B.drop 1).take (cnt (B.drop 1))))
def peek (B : List Int) : Option (Nat × Nat) :=
  if opens B = true then (match item B (cnt (B.drop 1) + 3) with | some x => item B (x.1 + x.2 + 2) | none => none) else none

theorem item_spec (pre body : List Int) (s k : Nat) (hs : s ≤ body.length) (h7 : s ≤ 9999999) (hk : k ≤ (pre ++ 36 :: (num s ++ 13 :: 10 :: body)).length) :
    item ((pre ++ 36 :: (num s ++ 13 :: 10 :: body)).take k) pre.length = if pre.length + 1 + (num s).length + 2 + s ≤ k then some (pre.length + 1 + (num s).length + 2, s) else none := by
  obtain ⟨A, hA⟩ : ∃ A, pre ++ 36 :: (num s ++ 13 :: 10 :: body) = A := ⟨_, rfl⟩
  rw [hA] at hk ⊢
  have hlen : (A.take k).length = k := by rw [List.length_take]; omega
  by_cases hp : k ≤ pre.length
  · rw [if_neg (by omega)]
    unfold item
    rw [if_neg]
    rintro ⟨h1, _⟩
    rw [hlen] at h1
    omega
  · have hd : (A.take k).drop (pre.length + 1) = (num s ++ 13 :: 10 :: body).take (k - (pre.length + 1)) := by
      rw [List.drop_take, ← hA, List.drop_append, List.drop_of_length_le (by omega)]
      simp
    have h36 : (A.take k).getD pre.length 0 = 36 := by
      rw [List.getD_eq_getElem?_getD, List.getElem?_take, if_pos (by omega), ← hA, ← List.getD_eq_getElem?_getD, getD_app_right0]
      rfl
    by_cases hj : k - (pre.length + 1) < (num s).length + 2
    · rw [if_neg (by omega)]
      unfold item
      rw [if_neg]
      rintro ⟨_, _, h3, _⟩
      rw [hd, line_cut s _ body hj] at h3
      cases h3
    · have ht : (num s ++ 13 :: 10 :: body).take (k - (pre.length + 1)) = num s ++ 13 :: 10 :: (body.take (k - (pre.length + 1) - (num s).length - 2)) := by
        rw [List.take_append, List.take_of_length_le (by omega)]
        congr 1
        obtain ⟨m, hm⟩ : ∃ m, k - (pre.length + 1) - (num s).length = m + 2 := ⟨k - (pre.length + 1) - (num s).length - 2, by omega⟩
        rw [hm]
        rfl
      obtain ⟨l1, l2, l3⟩ := line_full s (body.take (k - (pre.length + 1) - (num s).length - 2)) h7
      unfold item
      rw [hd, ht, l1, l2, l3, hlen, h36]
      by_cases hfin : pre.length + 1 + (num s).length + 2 + s ≤ k
      · rw [if_pos hfin, if_pos ⟨by omega, rfl, rfl, by omega⟩]
        simp
      · rw [if_neg hfin, if_neg]
        rintro ⟨_, _, _, h4⟩
        omega

/-! ### What AppendArray writes -/
def hdr (c : Int) (n : Nat) : List Int := c :: (num n ++ [13, 10])
def bulk (e : List Int) : List Int := hdr 36 e.length ++ e ++ [13, 10]
def arr (es : List (List Int)) : List Int := hdr 42 es.length ++ es.flatMap bulk

theorem hdr_length (c : Int) (n : Nat) : (hdr c n).length = 1 + (num n).length + 2 := by simp [hdr]; omega
theorem bulk_length (e : List Int) : (bulk e).length = 1 + (num e.length).length + 2 + e.length + 2 := by
  unfold bulk; rw [List.length_append, List.length_append, hdr_length]; rfl

def keyEnd (es : List (List Int)) : Nat := 1 + (num es.length).length + 2 + 1 + (num (es.getD 0 []).length).length + 2 + (es.getD 0 []).length + 2 + 1 + (num (es.getD 1 []).length).length + 2 + (es.getD 1 []).length

theorem opens_cut (N k : Nat) (rest : List Int) (hN : N ≤ 9999999) (hk : k ≤ (hdr 42 N ++ rest).length) :
    opens ((hdr 42 N ++ rest).take k) = decide (1 + (num N).length + 2 ≤ k ∧ 2 ≤ N) ∧ (1 + (num N).length + 2 ≤ k → cnt (((hdr 42 N ++ rest).take k).drop 1) = (num N).length) := by
  have e : hdr 42 N ++ rest = 42 :: (num N ++ 13 :: 10 :: rest) := by simp [hdr]
  rw [e] at hk ⊢
  have hlen : ((42 :: (num N ++ 13 :: 10 :: rest)).take k).length = k := by rw [List.length_take]; omega
  by_cases h0 : k = 0
  · subst h0
    refine ⟨?_, fun h => by omega⟩
    rw [decide_eq_false (by omega)]
    rfl
  · obtain ⟨m, rfl⟩ : ∃ m, k = m + 1 := ⟨k - 1, by omega⟩
    have hd : ((42 :: (num N ++ 13 :: 10 :: rest)).take (m + 1)).drop 1 = (num N ++ 13 :: 10 :: rest).take m := rfl
    have h42 : ((42 :: (num N ++ 13 :: 10 :: rest)).take (m + 1)).getD 0 0 = 42 := rfl
    by_cases hj : m < (num N).length + 2
    · refine ⟨?_, fun h => by omega⟩
      rw [decide_eq_false (by omega)]
      unfold opens
      apply decide_eq_false
      rintro ⟨_, _, h3, _⟩
      rw [hd, line_cut N m rest hj] at h3
      cases h3
    · have ht : (num N ++ 13 :: 10 :: rest).take m = num N ++ 13 :: 10 :: (rest.take (m - (num N).length - 2)) := by
        rw [List.take_append, List.take_of_length_le (by omega)]
        congr 1
        obtain ⟨q, hq⟩ : ∃ q, m - (num N).length = q + 2 := ⟨m - (num N).length - 2, by omega⟩
        rw [hq]
        rfl
      obtain ⟨l1, l2, l3⟩ := line_full N (rest.take (m - (num N).length - 2)) hN
      refine ⟨?_, fun _ => by rw [hd, ht, l1]⟩
      unfold opens
      rw [hd, ht, l1, l2, l3, h42, hlen]
      by_cases h2 : 2 ≤ N
      · rw [decide_eq_true ⟨by omega, rfl, rfl, by omega⟩, decide_eq_true ⟨by omega, h2⟩]
      · rw [decide_eq_false (by rintro ⟨_, _, _, h⟩; omega), decide_eq_false (by rintro ⟨_, h⟩; omega)]

theorem peek_spec (es : List (List Int)) (tail : List Int) (k : Nat) (hN : es.length ≤ 9999999) (hsz : ∀ e ∈ es, e.length ≤ 9999999) (hk : k ≤ (arr es ++ tail).length) :
    peek ((arr es ++ tail).take k) = if 2 ≤ es.length ∧ keyEnd es ≤ k then some (keyEnd es - (es.getD 1 []).length, (es.getD 1 []).length) else none := by
  have e0 : arr es ++ tail = hdr 42 es.length ++ (es.flatMap bulk ++ tail) := by unfold arr; rw [List.append_assoc]
  obtain ⟨o1, o2⟩ := opens_cut es.length k (es.flatMap bulk ++ tail) hN (by rw [← e0]; exact hk)
  rw [← e0] at o1 o2
  unfold peek
  rw [o1]
  by_cases h2 : 2 ≤ es.length
  · obtain ⟨x, y, r, rfl⟩ : ∃ x y r, es = x :: y :: r := by
      match es, h2 with
      | x :: y :: r, _ => exact ⟨x, y, r, rfl⟩
    have hx : x.length ≤ 9999999 := hsz x (by simp)
    have hy : y.length ≤ 9999999 := hsz y (by simp)
    have ek : keyEnd (x :: y :: r) = 1 + (num (x :: y :: r).length).length + 2 + 1 + (num x.length).length + 2 + x.length + 2 + 1 + (num y.length).length + 2 + y.length := rfl
    have ey : (x :: y :: r).getD 1 [] = y := rfl
    rw [ey]
    by_cases hh : 1 + (num (x :: y :: r).length).length + 2 ≤ k
    · rw [decide_eq_true ⟨hh, h2⟩, if_pos rfl, o2 hh]
      -- the first item
      have a1 : arr (x :: y :: r) ++ tail = hdr 42 (x :: y :: r).length ++ 36 :: (num x.length ++ 13 :: 10 :: (x ++ [13, 10] ++ bulk y ++ r.flatMap bulk ++ tail)) := by
        unfold arr
        simp [bulk, hdr]
      have hp1 : (num (x :: y :: r).length).length + 3 = (hdr 42 (x :: y :: r).length).length := by rw [hdr_length]; omega
      have i1 := item_spec (hdr 42 (x :: y :: r).length) (x ++ [13, 10] ++ bulk y ++ r.flatMap bulk ++ tail) x.length k (by simp) hx (by rw [← a1]; exact hk)
      rw [← a1, hdr_length] at i1
      have hq : 1 + (num (x :: y :: r).length).length + 2 = (num (x :: y :: r).length).length + 3 := by omega
      rw [hq] at i1
      rw [i1]
      by_cases h3 : (num (x :: y :: r).length).length + 3 + 1 + (num x.length).length + 2 + x.length ≤ k
      · rw [if_pos h3]
        -- the second item
        have a2 : arr (x :: y :: r) ++ tail = (hdr 42 (x :: y :: r).length ++ bulk x) ++ 36 :: (num y.length ++ 13 :: 10 :: (y ++ [13, 10] ++ r.flatMap bulk ++ tail)) := by
          unfold arr
          simp [bulk, hdr]
        have i2 := item_spec (hdr 42 (x :: y :: r).length ++ bulk x) (y ++ [13, 10] ++ r.flatMap bulk ++ tail) y.length k (by simp) hy (by rw [← a2]; exact hk)
        rw [← a2, List.length_append, hdr_length, bulk_length] at i2
        have hq2 : (num (x :: y :: r).length).length + 3 + 1 + (num x.length).length + 2 + x.length + 2 = 1 + (num (x :: y :: r).length).length + 2 + (1 + (num x.length).length + 2 + x.length + 2) := by omega
        show item _ ((num (x :: y :: r).length).length + 3 + 1 + (num x.length).length + 2 + x.length + 2) = _
        rw [hq2, i2, ek]
        by_cases h4 : 1 + (num (x :: y :: r).length).length + 2 + (1 + (num x.length).length + 2 + x.length + 2) + 1 + (num y.length).length + 2 + y.length ≤ k
        · rw [if_pos h4, if_pos ⟨h2, by omega⟩]
          congr 2
          omega
        · rw [if_neg h4, if_neg (by omega)]
      · rw [if_neg h3]
        show none = _
        rw [ek, if_neg (by omega)]
    · rw [decide_eq_false (by omega), if_neg (by decide), ek, if_neg (by omega)]
  · rw [decide_eq_false (by omega), if_neg (by decide), if_neg (by omega)]
end Go.Proofs.Qxb6608909aDoor
