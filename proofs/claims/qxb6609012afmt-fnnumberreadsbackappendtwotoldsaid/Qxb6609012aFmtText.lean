import Derived.Test.Qxb6609012aFmtPeek
import Derived.Laws.BytesArg
namespace Go.Proofs.Qxb6609012aFmt
open Go.RowKit
set_option linter.unusedSimpArgs false
set_option linter.unusedVariables false

theorem len_list (s : ByteArray) : s.data.toList.length = s.size := by rw [Array.length_toList]; rfl

/-- The numbers of a string's bytes. -/
def nums (s : ByteArray) : List Int := s.data.toList.map fun b => (b.toNat : Int)
theorem nums_length (s : ByteArray) : (nums s).length = s.size := by unfold nums; rw [List.length_map, len_list]

/-- What stands ahead, two digits, the tail: the text that the law reads. -/
def text (p t : ByteArray) (x y : Nat) : ByteArray := strOfNums (nums p ++ [(x : Int), (y : Int)]) ++ t

theorem text_list (p t : ByteArray) (x y : Nat) : (text p t x y).data.toList = p.data.toList ++ (UInt8.ofNat x :: UInt8.ofNat y :: t.data.toList) := by
  unfold text
  have h : (strOfNums (nums p ++ [(x : Int), (y : Int)]) ++ t).data.toList = (strOfNums (nums p ++ [(x : Int), (y : Int)])).data.toList ++ t.data.toList := by
    rw [ByteArray.data_append, Array.toList_append]
  rw [h, strOfNums_data]
  simp [nums, Function.comp_def]

theorem text_size (p t : ByteArray) (x y : Nat) : (text p t x y).size = p.size + 2 + t.size := by
  have := congrArg List.length (text_list p t x y)
  rw [len_list, List.length_append, len_list, List.length_cons, List.length_cons, len_list] at this
  omega

theorem at_list (s : ByteArray) (i : Nat) (h : i < s.size) (l : List UInt8) (hl : s.data.toList = l) (h' : i < l.length) : s[i] = l[i]'h' := by
  subst hl
  show s.data[i] = _
  rw [Array.getElem_toList]

theorem at_app (a b : List UInt8) (n k : Nat) (h : a.length = n) (h1 : n + k < (a ++ b).length) (h2 : k < b.length) : (a ++ b)[n + k]'h1 = b[k]'h2 := by
  subst h
  rw [List.getElem_append_right (by omega)]
  congr 1
  omega

theorem text_0 (p t : ByteArray) (x y : Nat) (hx : x < 256) (h : p.size < (text p t x y).size) : ((text p t x y)[p.size]'h).toNat = x := by
  rw [at_list _ _ _ _ (text_list p t x y) (by rw [List.length_append, len_list]; simp)]
  have q := at_app p.data.toList (UInt8.ofNat x :: UInt8.ofNat y :: t.data.toList) p.size 0 (len_list p) (by rw [List.length_append, len_list]; simp) (by simp)
  simp only [Nat.add_zero] at q
  rw [q]
  show (UInt8.ofNat x).toNat = x
  rw [UInt8.toNat_ofNat']
  omega
theorem text_1 (p t : ByteArray) (x y : Nat) (hy : y < 256) (h : p.size + 1 < (text p t x y).size) : ((text p t x y)[p.size + 1]'h).toNat = y := by
  rw [at_list _ _ _ _ (text_list p t x y) (by rw [List.length_append, len_list]; simp)]
  rw [at_app p.data.toList (UInt8.ofNat x :: UInt8.ofNat y :: t.data.toList) p.size 1 (len_list p) (by rw [List.length_append, len_list]; simp) (by simp)]
  show (UInt8.ofNat y).toNat = y
  rw [UInt8.toNat_ofNat']
  omega
theorem text_2 (p t : ByteArray) (x y : Nat) (h : p.size + 2 < (text p t x y).size) (h' : 0 < t.size) : (text p t x y)[p.size + 2]'h = t[0]'h' := by
  have ht : 0 < t.data.toList.length := by rw [len_list]; exact h'
  rw [at_list _ _ _ _ (text_list p t x y) (by rw [List.length_append, len_list, List.length_cons, List.length_cons]; omega)]
  rw [at_app p.data.toList (UInt8.ofNat x :: UInt8.ofNat y :: t.data.toList) p.size 2 (len_list p) (by rw [List.length_append, len_list, List.length_cons, List.length_cons]; omega) (by rw [List.length_cons, List.length_cons]; omega)]
  rw [at_list t 0 h' _ rfl ht]
  rfl
theorem text_cut (p t : ByteArray) (x y : Nat) : ((text p t x y).extract p.size (p.size + 2)).data.toList = [UInt8.ofNat x, UInt8.ofNat y] := by
  rw [ByteArray.data_extract, Array.toList_extract, text_list]
  have : p.data.toList.length = p.size := len_list p
  simp only [List.extract_eq_take_drop, Nat.add_sub_cancel_left]
  rw [← this, List.drop_left]
  rfl
theorem atoi_two : ∀ n : Fin 100, Lib.atoi [UInt8.ofNat (48 + n.val / 10), UInt8.ofNat (48 + n.val % 10)] = some (n.val : Int) := by decide +kernel
end Go.Proofs.Qxb6609012aFmt
