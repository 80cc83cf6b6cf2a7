import Derived.Shelf.LaysM
import Derived.Shelf.Strconv.AppendIntPublic10
import Derived.Test.Qxb6608909aDoorRows
import Derived.Test.Qxb6608909aDoorBase
import Derived.Lib.AppendIntMem
import Derived.Lib.ItoaLen
namespace Go.Proofs.Qxb6608909aDoor
open Go.Shelf Go.RowKit
def Tryd.laysM176_ren : Go.Shelf.Ren := ⟨fun | 176 => 35 | 249 => 40 | 288 => 43 | 283 => 50 | 284 => 51 | 285 => 52 | 286 => 53 | 129 => 58 | 317 => 57 | 318 => 59 | 319 => 60 | 320 => 61 | 337 => 63 | 338 => 64 | n => n, fun | 37 => 22 | 2 => 2 | 3 => 3 | 53 => 59 | 4 => 4 | 9 => 9 | 171 => 71 | 0 => 0 | 173 => 74 | 212 => 81 | 51 => 82 | 5 => 5 | 20 => 20 | 213 => 83 | 46 => 65 | 232 => 92 | 233 => 93 | n => n, fun | 17 => 2 | 18 => 3 | 19 => 4 | n => n⟩
theorem Tryd.laysM176 : Go.Proofs.LaysM.n176 Tryd.prog Tryd.laysM176_ren := {
  mixed := by kernel_rfl
  f129 := Tryd.func58.trans (congrArg some (by kernel_rfl))
  f176 := Tryd.func35.trans (congrArg some (by kernel_rfl))
  f249 := Tryd.func40.trans (congrArg some (by kernel_rfl))
  f283 := Tryd.func50.trans (congrArg some (by kernel_rfl))
  f284 := Tryd.func51.trans (congrArg some (by kernel_rfl))
  f285 := Tryd.func52.trans (congrArg some (by kernel_rfl))
  f286 := Tryd.func53.trans (congrArg some (by kernel_rfl))
  f288 := Tryd.func43.trans (congrArg some (by kernel_rfl))
  f317 := Tryd.func57.trans (congrArg some (by kernel_rfl))
  f318 := Tryd.func59.trans (congrArg some (by kernel_rfl))
  f319 := Tryd.func60.trans (congrArg some (by kernel_rfl))
  f320 := Tryd.func61.trans (congrArg some (by kernel_rfl))
  f337 := Tryd.func63.trans (congrArg some (by kernel_rfl))
  f338 := Tryd.func64.trans (congrArg some (by kernel_rfl))
  t0 := Tryd.underlying0
  a0 := Tryd.isAgg0
  z0 := Tryd.sizeOf0
  v0 := Tryd.zeroValue0
  t2 := Tryd.underlying2
  a2 := Tryd.isAgg2
  z2 := Tryd.sizeOf2
  v2 := Tryd.zeroValue2
  t3 := Tryd.underlying3
  a3 := Tryd.isAgg3
  z3 := Tryd.sizeOf3
  v3 := Tryd.zeroValue3
  t4 := Tryd.underlying4
  a4 := Tryd.isAgg4
  z4 := Tryd.sizeOf4
  v4 := Tryd.zeroValue4
  t5 := Tryd.underlying5
  a5 := Tryd.isAgg5
  z5 := Tryd.sizeOf5
  v5 := Tryd.zeroValue5
  t9 := Tryd.underlying9
  a9 := Tryd.isAgg9
  z9 := Tryd.sizeOf9
  v9 := Tryd.zeroValue9
  t20 := Tryd.underlying20
  a20 := Tryd.isAgg20
  z20 := Tryd.sizeOf20
  v20 := Tryd.zeroValue20
  t37 := Tryd.underlying22
  a37 := Tryd.isAgg22
  z37 := Tryd.sizeOf22
  v37 := Tryd.zeroValue22
  t46 := Tryd.underlying65
  a46 := Tryd.isAgg65
  z46 := Tryd.sizeOf65
  v46 := Tryd.zeroValue65
  t51 := Tryd.underlying82
  a51 := Tryd.isAgg82
  z51 := Tryd.sizeOf82
  v51 := Tryd.zeroValue82
  t53 := Tryd.underlying59
  a53 := Tryd.isAgg59
  z53 := Tryd.sizeOf59
  v53 := Tryd.zeroValue59
  t171 := Tryd.underlying71
  a171 := Tryd.isAgg71
  z171 := Tryd.sizeOf71
  v171 := Tryd.zeroValue71
  t173 := Tryd.underlying74
  a173 := Tryd.isAgg74
  z173 := Tryd.sizeOf74
  v173 := Tryd.zeroValue74
  t212 := Tryd.underlying81
  a212 := Tryd.isAgg81
  z212 := Tryd.sizeOf81
  v212 := Tryd.zeroValue81
  t213 := Tryd.underlying83
  a213 := Tryd.isAgg83
  z213 := Tryd.sizeOf83
  t232 := Tryd.underlying92
  a232 := Tryd.isAgg92
  z232 := Tryd.sizeOf92
  v232 := Tryd.zeroValue92
  t233 := Tryd.underlying93
  a233 := Tryd.isAgg93
  z233 := Tryd.sizeOf93
  v233 := Tryd.zeroValue93
  g17 := by kernel_rfl
  g18 := by kernel_rfl
  g19 := by kernel_rfl
  i0 := by kernel_rfl
  i2 := by kernel_rfl
  i3 := by kernel_rfl
  i4 := by kernel_rfl
  i5 := by kernel_rfl
  i9 := by kernel_rfl
  i20 := by kernel_rfl
  i37 := by kernel_rfl
  i46 := by kernel_rfl
  i51 := by kernel_rfl
  i53 := by kernel_rfl
  i171 := by kernel_rfl
  i173 := by kernel_rfl
  i212 := by kernel_rfl
  i232 := by kernel_rfl
  i233 := by kernel_rfl
  m17 := by kernel_rfl
  m18 := by kernel_rfl
  m19 := by kernel_rfl }

/-- The name of the table of powers of ten: the first name that the rows list. -/
def powName : String := Rows.fnPeekKeyAtEveryCutOfAppendArrayRow.named.getD 0 ""
/-- The decimal text of n, as numbers. -/
def num (n : Nat) : List Int := (Lib.itoa (n : Int)).map fun b => (b.toNat : Int)

theorem byteCells_num (n : Nat) : Lib.byteCells (Lib.itoa (n : Int)) = cs8 (num n) := by simp [Lib.byteCells, cs8, num, Function.comp_def]
theorem num_le (n : Nat) (h : n ≤ 9223372036854775807) : (num n).length ≤ 21 := by
  unfold num; rw [List.length_map]; exact Lib.itoa_length_le _ (by omega) (by omega)

theorem appendInt_own (base n : Nat) (hn : n ≤ 9223372036854775807) (v : Value) (zs : List Int) (w : World) (ho : Owns w base v zs) (hb : base ≤ w.heap.size) (hl : zs.length ≤ 1099511627776) (ht : Lib.TabBelow Tryd.prog base w powName .u64 Lib.pow10Tab) :
    Calls Tryd.prog 35 #[v, .int .i64 n, .int .i64 10] w fun e w' => ∃ v', e = .returned v' ∧ Owns w' base v' (zs ++ num n) ∧ Below base w w' := by
  refine (Any.strconv_AppendInt_10 Tryd.laysM176 base zs.length n (by omega) (by omega) v (cs8 zs) w ho hb (by omega) ht).mono ?_
  rintro e w' ⟨v', rfl, h1, h2, _⟩
  refine ⟨v', rfl, ?_, h2⟩
  have h1' : w'.ownsRow base 5 1 v' (zs.length + (Lib.itoa (n : Int)).length) (cs8 zs ++ Lib.byteCells (Lib.itoa (n : Int))) := h1
  unfold Owns
  rw [List.length_append, cs8_append, ← byteCells_num, show (num n).length = (Lib.itoa (n : Int)).length from by simp [num]]
  exact h1'
end Go.Proofs.Qxb6608909aDoor
